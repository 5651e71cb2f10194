/- parse.lexer: scanOperator, its ways (printed by wip/tools/gen_oper.py). -/
import Derived.Test.YtmjoebnphacadaaDoorLexE
namespace Go.Proofs.YtmjoebnphacadaaDoor.Lex
open Go.RowKit Go.Lib Go.Proofs.YtmjoebnphacadaaDoorW.PrintWords Go.Proofs.YtmjoebnphacadaaDoorW.PrintLast
set_option linter.unusedVariables false
set_option linter.unusedSimpArgs false
section
variable {w : World} {B o : Nat} {s : ByteArray} {e : Value} {p wd c : Nat}
set_option maxHeartbeats 3200000 in
set_option maxRecDepth 100000 in
theorem oper_five {w0 : World} (hX : Cx w0 w B) (h : LexAt w B o s e p p wd c c) (hs : s.size ≤ 2147483647) (hp : p ≤ s.size) (hc : c ≤ p) (h1 : accB s xB p = true) (h2 : accB s eB (p + wdt s p) = true) :
    Calls Tryd.prog 39 #[.pointer (some ⟨B, o, none⟩)] w fun x w' => x = .returned (.tuple #[tokV s 5 p (p + wdt s p + wdt s (p + wdt s p)) c (c + 2), .nilIface]) ∧ (∃ wd', LexAt w' B o s e (p + wdt s p + wdt s (p + wdt s p)) (p + wdt s p + wdt s (p + wdt s p)) wd' (c + 2) (c + 2)) ∧ Kept B o w w' := by
  have HX := Aside0.mk (hX.kept (Kept.alloc (Kept.refl B o w) h.lt (.cells #[.int .i64 0, .string ⟨#[]⟩, .int .i64 0, .int .i64 0, .int .i64 0, .int .i64 0] 80)))
  have HB := Aside0.mk h.lt
  have HL0 := Aside0.mk (h.alloc (.cells #[.int .i64 0, .string ⟨#[]⟩, .int .i64 0, .int .i64 0, .int .i64 0, .int .i64 0] 80))
  have A1 := Aside0.mk (acc_le h1)
  have A2 := Aside0.mk (acc_le h2)
  have HS := Aside0.mk (And.intro hs (And.intro hp hc))
  have HG := Aside0.mk (heap_alloc_new w (.cells #[.int .i64 0, .string ⟨#[]⟩, .int .i64 0, .int .i64 0, .int .i64 0, .int .i64 0] 80))
  have HK0 := Aside0.mk (Kept.refl B o (w.alloc (.cells #[.int .i64 0, .string ⟨#[]⟩, .int .i64 0, .int .i64 0, .int .i64 0, .int .i64 0] 80)))
  have HW := Aside0.mk (show Kept B o w (w.alloc (.cells #[.int .i64 0, .string ⟨#[]⟩, .int .i64 0, .int .i64 0, .int .i64 0, .int .i64 0] 80)) from Kept.alloc (Kept.refl B o w) h.lt _)
  have E1 := Aside0.mk h1
  have E2 := Aside0.mk h2
  clear hX h hs hp hc h1 h2
  go_enter Tryd.func39, Tryd.ntmps39
  go_wp2_with fail
  have C := accept_calls (HX.out.kept HK0.out) HL0.out xB (by decide) HS.out.1 (by have := HS.out; have := A1.out; have := A2.out; omega) (by have := HS.out; have := A1.out; have := A2.out; omega)
  rw [E1.out] at C
  refine C.mono ?_
  clear C
  rintro x w1 ⟨rfl, ⟨wd1, hl⟩, hk⟩
  have HL1 := Aside0.mk (show LexAt w1 B o s e p (p + wdt s p) wd1 c (c + 1) from hl)
  have HK1 := Aside0.mk (HK0.out.trans hk)
  clear hl hk
  go_wp2_with fail
  have C := accept_calls (HX.out.kept HK1.out) HL1.out eB (by decide) HS.out.1 (by have := HS.out; have := A1.out; have := A2.out; omega) (by have := HS.out; have := A1.out; have := A2.out; omega)
  rw [E2.out] at C
  refine C.mono ?_
  clear C
  rintro x w2 ⟨rfl, ⟨wd2, hl⟩, hk⟩
  have HL2 := Aside0.mk (show LexAt w2 B o s e p (p + wdt s p + wdt s (p + wdt s p)) wd2 c (c + 2) from hl)
  have HK2 := Aside0.mk (HK1.out.trans hk)
  clear hl hk
  go_wp2_with fail
  refine (emit_calls 5 HL2.out (by have := HS.out; have := A1.out; have := A2.out; omega) (by have := HS.out; have := A1.out; have := A2.out; omega)).mono ?_
  rintro x w9 ⟨rfl, hl, hk⟩
  have HL9 := Aside0.mk hl
  have HK9 := Aside0.mk (HK2.out.trans hk)
  have hg := (HK9.out.block w.heap.size (by simp) (by have := HB.out; omega)).trans HG.out
  obtain ⟨⟨n0, n1, n2, n3, n4, n5⟩, y0, y1, y2, y3, y4, y5⟩ := cells6 hg
  clear hl hk hg
  have hne : w.heap.size ≠ B := by have := HB.out; omega
  go_wp2
  refine bodyPost_ret (v := .tuple #[tokV s 5 p (p + wdt s p + wdt s (p + wdt s p)) c (c + 2), .nilIface]) ?_ rfl ?_
  · unfold tokV
    simp [results]
    go_simp
  · refine ⟨rfl, ⟨wd2, ?_⟩, ?_⟩
    · iterate 6 refine LexAt.farB hne ?_
      exact HL9.out
    · iterate 6 refine Kept.farB (Nat.le_refl _) HB.out ?_
      exact HW.out.trans HK9.out
set_option maxHeartbeats 3200000 in
set_option maxRecDepth 100000 in
theorem oper_seven {w0 : World} (hX : Cx w0 w B) (h : LexAt w B o s e p p wd c c) (hs : s.size ≤ 2147483647) (hp : p ≤ s.size) (hc : c ≤ p) (h1 : accB s xB p = true) (h2 : accB s eB (p + wdt s p) = false) (h3 : accB s tB (p + wdt s p) = true) :
    Calls Tryd.prog 39 #[.pointer (some ⟨B, o, none⟩)] w fun x w' => x = .returned (.tuple #[tokV s 7 p (p + wdt s p + wdt s (p + wdt s p)) c (c + 2), .nilIface]) ∧ (∃ wd', LexAt w' B o s e (p + wdt s p + wdt s (p + wdt s p)) (p + wdt s p + wdt s (p + wdt s p)) wd' (c + 2) (c + 2)) ∧ Kept B o w w' := by
  have HX := Aside0.mk (hX.kept (Kept.alloc (Kept.refl B o w) h.lt (.cells #[.int .i64 0, .string ⟨#[]⟩, .int .i64 0, .int .i64 0, .int .i64 0, .int .i64 0] 80)))
  have HB := Aside0.mk h.lt
  have HL0 := Aside0.mk (h.alloc (.cells #[.int .i64 0, .string ⟨#[]⟩, .int .i64 0, .int .i64 0, .int .i64 0, .int .i64 0] 80))
  have A1 := Aside0.mk (acc_le h1)
  have A3 := Aside0.mk (acc_le h3)
  have HS := Aside0.mk (And.intro hs (And.intro hp hc))
  have HG := Aside0.mk (heap_alloc_new w (.cells #[.int .i64 0, .string ⟨#[]⟩, .int .i64 0, .int .i64 0, .int .i64 0, .int .i64 0] 80))
  have HK0 := Aside0.mk (Kept.refl B o (w.alloc (.cells #[.int .i64 0, .string ⟨#[]⟩, .int .i64 0, .int .i64 0, .int .i64 0, .int .i64 0] 80)))
  have HW := Aside0.mk (show Kept B o w (w.alloc (.cells #[.int .i64 0, .string ⟨#[]⟩, .int .i64 0, .int .i64 0, .int .i64 0, .int .i64 0] 80)) from Kept.alloc (Kept.refl B o w) h.lt _)
  have E1 := Aside0.mk h1
  have E2 := Aside0.mk h2
  have E3 := Aside0.mk h3
  clear hX h hs hp hc h1 h2 h3
  go_enter Tryd.func39, Tryd.ntmps39
  go_wp2_with fail
  have C := accept_calls (HX.out.kept HK0.out) HL0.out xB (by decide) HS.out.1 (by have := HS.out; have := A1.out; have := A3.out; omega) (by have := HS.out; have := A1.out; have := A3.out; omega)
  rw [E1.out] at C
  refine C.mono ?_
  clear C
  rintro x w1 ⟨rfl, ⟨wd1, hl⟩, hk⟩
  have HL1 := Aside0.mk (show LexAt w1 B o s e p (p + wdt s p) wd1 c (c + 1) from hl)
  have HK1 := Aside0.mk (HK0.out.trans hk)
  clear hl hk
  go_wp2_with fail
  have C := accept_calls (HX.out.kept HK1.out) HL1.out eB (by decide) HS.out.1 (by have := HS.out; have := A1.out; have := A3.out; omega) (by have := HS.out; have := A1.out; have := A3.out; omega)
  rw [E2.out] at C
  refine C.mono ?_
  clear C
  rintro x w2 ⟨rfl, ⟨wd2, hl⟩, hk⟩
  have HL2 := Aside0.mk (show LexAt w2 B o s e p (p + wdt s p) wd2 c (c + 1) from hl)
  have HK2 := Aside0.mk (HK1.out.trans hk)
  clear hl hk
  go_wp2_with fail
  have C := accept_calls (HX.out.kept HK2.out) HL2.out tB (by decide) HS.out.1 (by have := HS.out; have := A1.out; have := A3.out; omega) (by have := HS.out; have := A1.out; have := A3.out; omega)
  rw [E3.out] at C
  refine C.mono ?_
  clear C
  rintro x w3 ⟨rfl, ⟨wd3, hl⟩, hk⟩
  have HL3 := Aside0.mk (show LexAt w3 B o s e p (p + wdt s p + wdt s (p + wdt s p)) wd3 c (c + 2) from hl)
  have HK3 := Aside0.mk (HK2.out.trans hk)
  clear hl hk
  go_wp2_with fail
  refine (emit_calls 7 HL3.out (by have := HS.out; have := A1.out; have := A3.out; omega) (by have := HS.out; have := A1.out; have := A3.out; omega)).mono ?_
  rintro x w9 ⟨rfl, hl, hk⟩
  have HL9 := Aside0.mk hl
  have HK9 := Aside0.mk (HK3.out.trans hk)
  have hg := (HK9.out.block w.heap.size (by simp) (by have := HB.out; omega)).trans HG.out
  obtain ⟨⟨n0, n1, n2, n3, n4, n5⟩, y0, y1, y2, y3, y4, y5⟩ := cells6 hg
  clear hl hk hg
  have hne : w.heap.size ≠ B := by have := HB.out; omega
  go_wp2
  refine bodyPost_ret (v := .tuple #[tokV s 7 p (p + wdt s p + wdt s (p + wdt s p)) c (c + 2), .nilIface]) ?_ rfl ?_
  · unfold tokV
    simp [results]
    go_simp
  · refine ⟨rfl, ⟨wd3, ?_⟩, ?_⟩
    · iterate 6 refine LexAt.farB hne ?_
      exact HL9.out
    · iterate 6 refine Kept.farB (Nat.le_refl _) HB.out ?_
      exact HW.out.trans HK9.out
set_option maxHeartbeats 3200000 in
set_option maxRecDepth 100000 in
theorem oper_bad1 {w0 : World} (hX : Cx w0 w B) (h : LexAt w B o s e p p wd c c) (hs : s.size ≤ 2147483647) (hp : p ≤ s.size) (hc : c ≤ p) (h1 : accB s xB p = true) (h2 : accB s eB (p + wdt s p) = false) (h3 : accB s tB (p + wdt s p) = false) :
    Calls Tryd.prog 39 #[.pointer (some ⟨B, o, none⟩)] w fun x w' => (∃ r, x = .returned (.tuple #[noTok, r]) ∧ LexErr r) ∧ (∃ a' p' wd' ca' c', LexAt w' B o s e a' p' wd' ca' c') ∧ Kept B o w w' := by
  have HX := Aside0.mk (hX.kept (Kept.alloc (Kept.refl B o w) h.lt (.cells #[.int .i64 0, .string ⟨#[]⟩, .int .i64 0, .int .i64 0, .int .i64 0, .int .i64 0] 80)))
  have HB := Aside0.mk h.lt
  have HL0 := Aside0.mk (h.alloc (.cells #[.int .i64 0, .string ⟨#[]⟩, .int .i64 0, .int .i64 0, .int .i64 0, .int .i64 0] 80))
  have A1 := Aside0.mk (acc_le h1)
  have HS := Aside0.mk (And.intro hs (And.intro hp hc))
  have HG := Aside0.mk (heap_alloc_new w (.cells #[.int .i64 0, .string ⟨#[]⟩, .int .i64 0, .int .i64 0, .int .i64 0, .int .i64 0] 80))
  have HK0 := Aside0.mk (Kept.refl B o (w.alloc (.cells #[.int .i64 0, .string ⟨#[]⟩, .int .i64 0, .int .i64 0, .int .i64 0, .int .i64 0] 80)))
  have HW := Aside0.mk (show Kept B o w (w.alloc (.cells #[.int .i64 0, .string ⟨#[]⟩, .int .i64 0, .int .i64 0, .int .i64 0, .int .i64 0] 80)) from Kept.alloc (Kept.refl B o w) h.lt _)
  have E1 := Aside0.mk h1
  have E2 := Aside0.mk h2
  have E3 := Aside0.mk h3
  clear hX h hs hp hc h1 h2 h3
  go_enter Tryd.func39, Tryd.ntmps39
  go_wp2_with fail
  have C := accept_calls (HX.out.kept HK0.out) HL0.out xB (by decide) HS.out.1 (by have := HS.out; have := A1.out; omega) (by have := HS.out; have := A1.out; omega)
  rw [E1.out] at C
  refine C.mono ?_
  clear C
  rintro x w1 ⟨rfl, ⟨wd1, hl⟩, hk⟩
  have HL1 := Aside0.mk (show LexAt w1 B o s e p (p + wdt s p) wd1 c (c + 1) from hl)
  have HK1 := Aside0.mk (HK0.out.trans hk)
  clear hl hk
  go_wp2_with fail
  have C := accept_calls (HX.out.kept HK1.out) HL1.out eB (by decide) HS.out.1 (by have := HS.out; have := A1.out; omega) (by have := HS.out; have := A1.out; omega)
  rw [E2.out] at C
  refine C.mono ?_
  clear C
  rintro x w2 ⟨rfl, ⟨wd2, hl⟩, hk⟩
  have HL2 := Aside0.mk (show LexAt w2 B o s e p (p + wdt s p) wd2 c (c + 1) from hl)
  have HK2 := Aside0.mk (HK1.out.trans hk)
  clear hl hk
  go_wp2_with fail
  have C := accept_calls (HX.out.kept HK2.out) HL2.out tB (by decide) HS.out.1 (by have := HS.out; have := A1.out; omega) (by have := HS.out; have := A1.out; omega)
  rw [E3.out] at C
  refine C.mono ?_
  clear C
  rintro x w3 ⟨rfl, ⟨wd3, hl⟩, hk⟩
  have HL3 := Aside0.mk (show LexAt w3 B o s e p (p + wdt s p) wd3 c (c + 1) from hl)
  have HK3 := Aside0.mk (HK2.out.trans hk)
  clear hl hk
  go_wp2_with fail
  have hg := (HK3.out.block w.heap.size (by simp) (by have := HB.out; omega)).trans HG.out
  have CS := Aside0.mk (show ∀ W, Below w3.heap.size w3 W → LexAt W B o s e p (p + wdt s p) wd3 c (c + 1) from fun W hb => HL3.out.below hb HL3.out.lt)
  have GS := Aside0.mk (show ∀ W, Below w3.heap.size w3 W → _ from fun W hb => (hb.block w.heap.size (by have := HK3.out.size; simp at this; omega)).trans hg)
  have c0 := HL3.out.c0
  obtain ⟨⟨n0, n1, n2, n3, n4, n5⟩, y0, y1, y2, y3, y4, y5⟩ := cells6 hg
  clear hg
  have hne : w.heap.size ≠ B := by have := HB.out; omega
  have hne' : B ≠ w.heap.size := fun e => hne e.symm
  go_region_held3 (fun w' => w'.cell? ⟨B, o, none⟩ = some (.string s)) (go_keep) (first
    | (go_at_call 44; refine (position_calls (CS.out _ (by repeat (first | exact Below.refl _ _ | apply below_drew1 | apply pw_below_drewN)))).mono ?_; rintro x w8 ⟨rfl, hb⟩; have HB4 := Aside0.mk (below_step (w := w3) (by repeat (first | exact Below.refl _ _ | apply below_drew1 | apply pw_below_drewN)) hb); clear hb c0 n0 n1 n2 n3 n4 n5 y0 y1 y2 y3 y4 y5; have H4 := Aside0.mk (CS.out _ HB4.out); have c0 := H4.out.c0; obtain ⟨⟨n0, n1, n2, n3, n4, n5⟩, y0, y1, y2, y3, y4, y5⟩ := cells6 (GS.out _ HB4.out)))
  go_wp2
  refine bodyPost_ret (v := .tuple #[noTok, .iface 121 (.agg #[.int .i64 (p : Int), .int .i64 ((p : Int) + (wdt s p : Int)), .int .i64 (c : Int), .int .i64 ((c : Int) + 1), .string s, .string ⟨#[61, 126]⟩])]) ?_ rfl ?_
  · unfold noTok
    simp [results]
    go_simp
  · refine ⟨⟨_, rfl, ⟨_, _, rfl, Or.inl rfl⟩⟩, ⟨p, (p + wdt s p), wd3, c, (c + 1), ?_⟩, ?_⟩
    · iterate 6 refine LexAt.farB hne ?_
      exact H4.out
    · iterate 6 refine Kept.farB (Nat.le_refl _) HB.out ?_
      exact HW.out.trans (HK3.out.trans (Kept.of_below HB4.out HL3.out.lt))
set_option maxHeartbeats 3200000 in
set_option maxRecDepth 100000 in
theorem oper_six {w0 : World} (hX : Cx w0 w B) (h : LexAt w B o s e p p wd c c) (hs : s.size ≤ 2147483647) (hp : p ≤ s.size) (hc : c ≤ p) (h1 : accB s xB p = false) (h2 : accB s eB p = true) (h3 : accB s tB (p + wdt s p) = true) :
    Calls Tryd.prog 39 #[.pointer (some ⟨B, o, none⟩)] w fun x w' => x = .returned (.tuple #[tokV s 6 p (p + wdt s p + wdt s (p + wdt s p)) c (c + 2), .nilIface]) ∧ (∃ wd', LexAt w' B o s e (p + wdt s p + wdt s (p + wdt s p)) (p + wdt s p + wdt s (p + wdt s p)) wd' (c + 2) (c + 2)) ∧ Kept B o w w' := by
  have HX := Aside0.mk (hX.kept (Kept.alloc (Kept.refl B o w) h.lt (.cells #[.int .i64 0, .string ⟨#[]⟩, .int .i64 0, .int .i64 0, .int .i64 0, .int .i64 0] 80)))
  have HB := Aside0.mk h.lt
  have HL0 := Aside0.mk (h.alloc (.cells #[.int .i64 0, .string ⟨#[]⟩, .int .i64 0, .int .i64 0, .int .i64 0, .int .i64 0] 80))
  have A2 := Aside0.mk (acc_le h2)
  have A3 := Aside0.mk (acc_le h3)
  have HS := Aside0.mk (And.intro hs (And.intro hp hc))
  have HG := Aside0.mk (heap_alloc_new w (.cells #[.int .i64 0, .string ⟨#[]⟩, .int .i64 0, .int .i64 0, .int .i64 0, .int .i64 0] 80))
  have HK0 := Aside0.mk (Kept.refl B o (w.alloc (.cells #[.int .i64 0, .string ⟨#[]⟩, .int .i64 0, .int .i64 0, .int .i64 0, .int .i64 0] 80)))
  have HW := Aside0.mk (show Kept B o w (w.alloc (.cells #[.int .i64 0, .string ⟨#[]⟩, .int .i64 0, .int .i64 0, .int .i64 0, .int .i64 0] 80)) from Kept.alloc (Kept.refl B o w) h.lt _)
  have E1 := Aside0.mk h1
  have E2 := Aside0.mk h2
  have E3 := Aside0.mk h3
  clear hX h hs hp hc h1 h2 h3
  go_enter Tryd.func39, Tryd.ntmps39
  go_wp2_with fail
  have C := accept_calls (HX.out.kept HK0.out) HL0.out xB (by decide) HS.out.1 (by have := HS.out; have := A2.out; have := A3.out; omega) (by have := HS.out; have := A2.out; have := A3.out; omega)
  rw [E1.out] at C
  refine C.mono ?_
  clear C
  rintro x w1 ⟨rfl, ⟨wd1, hl⟩, hk⟩
  have HL1 := Aside0.mk (show LexAt w1 B o s e p p wd1 c c from hl)
  have HK1 := Aside0.mk (HK0.out.trans hk)
  clear hl hk
  go_wp2_with fail
  have C := accept_calls (HX.out.kept HK1.out) HL1.out eB (by decide) HS.out.1 (by have := HS.out; have := A2.out; have := A3.out; omega) (by have := HS.out; have := A2.out; have := A3.out; omega)
  rw [E2.out] at C
  refine C.mono ?_
  clear C
  rintro x w2 ⟨rfl, ⟨wd2, hl⟩, hk⟩
  have HL2 := Aside0.mk (show LexAt w2 B o s e p (p + wdt s p) wd2 c (c + 1) from hl)
  have HK2 := Aside0.mk (HK1.out.trans hk)
  clear hl hk
  go_wp2_with fail
  have C := accept_calls (HX.out.kept HK2.out) HL2.out tB (by decide) HS.out.1 (by have := HS.out; have := A2.out; have := A3.out; omega) (by have := HS.out; have := A2.out; have := A3.out; omega)
  rw [E3.out] at C
  refine C.mono ?_
  clear C
  rintro x w3 ⟨rfl, ⟨wd3, hl⟩, hk⟩
  have HL3 := Aside0.mk (show LexAt w3 B o s e p (p + wdt s p + wdt s (p + wdt s p)) wd3 c (c + 2) from hl)
  have HK3 := Aside0.mk (HK2.out.trans hk)
  clear hl hk
  go_wp2_with fail
  refine (emit_calls 6 HL3.out (by have := HS.out; have := A2.out; have := A3.out; omega) (by have := HS.out; have := A2.out; have := A3.out; omega)).mono ?_
  rintro x w9 ⟨rfl, hl, hk⟩
  have HL9 := Aside0.mk hl
  have HK9 := Aside0.mk (HK3.out.trans hk)
  have hg := (HK9.out.block w.heap.size (by simp) (by have := HB.out; omega)).trans HG.out
  obtain ⟨⟨n0, n1, n2, n3, n4, n5⟩, y0, y1, y2, y3, y4, y5⟩ := cells6 hg
  clear hl hk hg
  have hne : w.heap.size ≠ B := by have := HB.out; omega
  go_wp2
  refine bodyPost_ret (v := .tuple #[tokV s 6 p (p + wdt s p + wdt s (p + wdt s p)) c (c + 2), .nilIface]) ?_ rfl ?_
  · unfold tokV
    simp [results]
    go_simp
  · refine ⟨rfl, ⟨wd3, ?_⟩, ?_⟩
    · iterate 6 refine LexAt.farB hne ?_
      exact HL9.out
    · iterate 6 refine Kept.farB (Nat.le_refl _) HB.out ?_
      exact HW.out.trans HK9.out
set_option maxHeartbeats 3200000 in
set_option maxRecDepth 100000 in
theorem oper_four {w0 : World} (hX : Cx w0 w B) (h : LexAt w B o s e p p wd c c) (hs : s.size ≤ 2147483647) (hp : p ≤ s.size) (hc : c ≤ p) (h1 : accB s xB p = false) (h2 : accB s eB p = true) (h3 : accB s tB (p + wdt s p) = false) :
    Calls Tryd.prog 39 #[.pointer (some ⟨B, o, none⟩)] w fun x w' => x = .returned (.tuple #[tokV s 4 p (p + wdt s p) c (c + 1), .nilIface]) ∧ (∃ wd', LexAt w' B o s e (p + wdt s p) (p + wdt s p) wd' (c + 1) (c + 1)) ∧ Kept B o w w' := by
  have HX := Aside0.mk (hX.kept (Kept.alloc (Kept.refl B o w) h.lt (.cells #[.int .i64 0, .string ⟨#[]⟩, .int .i64 0, .int .i64 0, .int .i64 0, .int .i64 0] 80)))
  have HB := Aside0.mk h.lt
  have HL0 := Aside0.mk (h.alloc (.cells #[.int .i64 0, .string ⟨#[]⟩, .int .i64 0, .int .i64 0, .int .i64 0, .int .i64 0] 80))
  have A2 := Aside0.mk (acc_le h2)
  have HS := Aside0.mk (And.intro hs (And.intro hp hc))
  have HG := Aside0.mk (heap_alloc_new w (.cells #[.int .i64 0, .string ⟨#[]⟩, .int .i64 0, .int .i64 0, .int .i64 0, .int .i64 0] 80))
  have HK0 := Aside0.mk (Kept.refl B o (w.alloc (.cells #[.int .i64 0, .string ⟨#[]⟩, .int .i64 0, .int .i64 0, .int .i64 0, .int .i64 0] 80)))
  have HW := Aside0.mk (show Kept B o w (w.alloc (.cells #[.int .i64 0, .string ⟨#[]⟩, .int .i64 0, .int .i64 0, .int .i64 0, .int .i64 0] 80)) from Kept.alloc (Kept.refl B o w) h.lt _)
  have E1 := Aside0.mk h1
  have E2 := Aside0.mk h2
  have E3 := Aside0.mk h3
  clear hX h hs hp hc h1 h2 h3
  go_enter Tryd.func39, Tryd.ntmps39
  go_wp2_with fail
  have C := accept_calls (HX.out.kept HK0.out) HL0.out xB (by decide) HS.out.1 (by have := HS.out; have := A2.out; omega) (by have := HS.out; have := A2.out; omega)
  rw [E1.out] at C
  refine C.mono ?_
  clear C
  rintro x w1 ⟨rfl, ⟨wd1, hl⟩, hk⟩
  have HL1 := Aside0.mk (show LexAt w1 B o s e p p wd1 c c from hl)
  have HK1 := Aside0.mk (HK0.out.trans hk)
  clear hl hk
  go_wp2_with fail
  have C := accept_calls (HX.out.kept HK1.out) HL1.out eB (by decide) HS.out.1 (by have := HS.out; have := A2.out; omega) (by have := HS.out; have := A2.out; omega)
  rw [E2.out] at C
  refine C.mono ?_
  clear C
  rintro x w2 ⟨rfl, ⟨wd2, hl⟩, hk⟩
  have HL2 := Aside0.mk (show LexAt w2 B o s e p (p + wdt s p) wd2 c (c + 1) from hl)
  have HK2 := Aside0.mk (HK1.out.trans hk)
  clear hl hk
  go_wp2_with fail
  have C := accept_calls (HX.out.kept HK2.out) HL2.out tB (by decide) HS.out.1 (by have := HS.out; have := A2.out; omega) (by have := HS.out; have := A2.out; omega)
  rw [E3.out] at C
  refine C.mono ?_
  clear C
  rintro x w3 ⟨rfl, ⟨wd3, hl⟩, hk⟩
  have HL3 := Aside0.mk (show LexAt w3 B o s e p (p + wdt s p) wd3 c (c + 1) from hl)
  have HK3 := Aside0.mk (HK2.out.trans hk)
  clear hl hk
  go_wp2_with fail
  refine (emit_calls 4 HL3.out (by have := HS.out; have := A2.out; omega) (by have := HS.out; have := A2.out; omega)).mono ?_
  rintro x w9 ⟨rfl, hl, hk⟩
  have HL9 := Aside0.mk hl
  have HK9 := Aside0.mk (HK3.out.trans hk)
  have hg := (HK9.out.block w.heap.size (by simp) (by have := HB.out; omega)).trans HG.out
  obtain ⟨⟨n0, n1, n2, n3, n4, n5⟩, y0, y1, y2, y3, y4, y5⟩ := cells6 hg
  clear hl hk hg
  have hne : w.heap.size ≠ B := by have := HB.out; omega
  go_wp2
  refine bodyPost_ret (v := .tuple #[tokV s 4 p (p + wdt s p) c (c + 1), .nilIface]) ?_ rfl ?_
  · unfold tokV
    simp [results]
    go_simp
  · refine ⟨rfl, ⟨wd3, ?_⟩, ?_⟩
    · iterate 6 refine LexAt.farB hne ?_
      exact HL9.out
    · iterate 6 refine Kept.farB (Nat.le_refl _) HB.out ?_
      exact HW.out.trans HK9.out
set_option maxHeartbeats 3200000 in
set_option maxRecDepth 100000 in
theorem oper_bad2 {w0 : World} (hX : Cx w0 w B) (h : LexAt w B o s e p p wd c c) (hs : s.size ≤ 2147483647) (hp : p ≤ s.size) (hc : c ≤ p) (h1 : accB s xB p = false) (h2 : accB s eB p = false) :
    Calls Tryd.prog 39 #[.pointer (some ⟨B, o, none⟩)] w fun x w' => (∃ r, x = .returned (.tuple #[noTok, r]) ∧ LexErr r) ∧ (∃ a' p' wd' ca' c', LexAt w' B o s e a' p' wd' ca' c') ∧ Kept B o w w' := by
  have HX := Aside0.mk (hX.kept (Kept.alloc (Kept.refl B o w) h.lt (.cells #[.int .i64 0, .string ⟨#[]⟩, .int .i64 0, .int .i64 0, .int .i64 0, .int .i64 0] 80)))
  have HB := Aside0.mk h.lt
  have HL0 := Aside0.mk (h.alloc (.cells #[.int .i64 0, .string ⟨#[]⟩, .int .i64 0, .int .i64 0, .int .i64 0, .int .i64 0] 80))
  have HS := Aside0.mk (And.intro hs (And.intro hp hc))
  have HG := Aside0.mk (heap_alloc_new w (.cells #[.int .i64 0, .string ⟨#[]⟩, .int .i64 0, .int .i64 0, .int .i64 0, .int .i64 0] 80))
  have HK0 := Aside0.mk (Kept.refl B o (w.alloc (.cells #[.int .i64 0, .string ⟨#[]⟩, .int .i64 0, .int .i64 0, .int .i64 0, .int .i64 0] 80)))
  have HW := Aside0.mk (show Kept B o w (w.alloc (.cells #[.int .i64 0, .string ⟨#[]⟩, .int .i64 0, .int .i64 0, .int .i64 0, .int .i64 0] 80)) from Kept.alloc (Kept.refl B o w) h.lt _)
  have E1 := Aside0.mk h1
  have E2 := Aside0.mk h2
  clear hX h hs hp hc h1 h2
  go_enter Tryd.func39, Tryd.ntmps39
  go_wp2_with fail
  have C := accept_calls (HX.out.kept HK0.out) HL0.out xB (by decide) HS.out.1 (by have := HS.out; omega) (by have := HS.out; omega)
  rw [E1.out] at C
  refine C.mono ?_
  clear C
  rintro x w1 ⟨rfl, ⟨wd1, hl⟩, hk⟩
  have HL1 := Aside0.mk (show LexAt w1 B o s e p p wd1 c c from hl)
  have HK1 := Aside0.mk (HK0.out.trans hk)
  clear hl hk
  go_wp2_with fail
  have C := accept_calls (HX.out.kept HK1.out) HL1.out eB (by decide) HS.out.1 (by have := HS.out; omega) (by have := HS.out; omega)
  rw [E2.out] at C
  refine C.mono ?_
  clear C
  rintro x w2 ⟨rfl, ⟨wd2, hl⟩, hk⟩
  have HL2 := Aside0.mk (show LexAt w2 B o s e p p wd2 c c from hl)
  have HK2 := Aside0.mk (HK1.out.trans hk)
  clear hl hk
  go_wp2_with fail
  have hg := (HK2.out.block w.heap.size (by simp) (by have := HB.out; omega)).trans HG.out
  have CS := Aside0.mk (show ∀ W, Below w2.heap.size w2 W → LexAt W B o s e p p wd2 c c from fun W hb => HL2.out.below hb HL2.out.lt)
  have GS := Aside0.mk (show ∀ W, Below w2.heap.size w2 W → _ from fun W hb => (hb.block w.heap.size (by have := HK2.out.size; simp at this; omega)).trans hg)
  have c0 := HL2.out.c0
  obtain ⟨⟨n0, n1, n2, n3, n4, n5⟩, y0, y1, y2, y3, y4, y5⟩ := cells6 hg
  clear hg
  have hne : w.heap.size ≠ B := by have := HB.out; omega
  have hne' : B ≠ w.heap.size := fun e => hne e.symm
  go_region_held3 (fun w' => w'.cell? ⟨B, o, none⟩ = some (.string s)) (go_keep) (first
    | (go_at_call 44; refine (position_calls (CS.out _ (by repeat (first | exact Below.refl _ _ | apply below_drew1 | apply pw_below_drewN)))).mono ?_; rintro x w8 ⟨rfl, hb⟩; have HB4 := Aside0.mk (below_step (w := w2) (by repeat (first | exact Below.refl _ _ | apply below_drew1 | apply pw_below_drewN)) hb); clear hb c0 n0 n1 n2 n3 n4 n5 y0 y1 y2 y3 y4 y5; have H4 := Aside0.mk (CS.out _ HB4.out); have c0 := H4.out.c0; obtain ⟨⟨n0, n1, n2, n3, n4, n5⟩, y0, y1, y2, y3, y4, y5⟩ := cells6 (GS.out _ HB4.out)))
  go_wp2
  refine bodyPost_ret (v := .tuple #[noTok, .iface 121 (.agg #[.int .i64 (p : Int), .int .i64 (p : Int), .int .i64 (c : Int), .int .i64 (c : Int), .string s, .string ⟨#[33, 61]⟩])]) ?_ rfl ?_
  · unfold noTok
    simp [results]
    go_simp
  · refine ⟨⟨_, rfl, ⟨_, _, rfl, Or.inl rfl⟩⟩, ⟨p, p, wd2, c, c, ?_⟩, ?_⟩
    · iterate 6 refine LexAt.farB hne ?_
      exact H4.out
    · iterate 6 refine Kept.farB (Nat.le_refl _) HB.out ?_
      exact HW.out.trans (HK2.out.trans (Kept.of_below HB4.out HL2.out.lt))
end
end Go.Proofs.YtmjoebnphacadaaDoor.Lex
