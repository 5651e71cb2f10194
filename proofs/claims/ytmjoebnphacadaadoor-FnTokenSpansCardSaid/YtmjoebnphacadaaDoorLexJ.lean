/- parse.ZzNewLexer, parse.zzData, parse.ZzLexer.ZzScan. -/
import Derived.Test.YtmjoebnphacadaaDoorLexI
namespace Go.Proofs.YtmjoebnphacadaaDoor.Lex
open Go.RowKit Go.Lib Go.Proofs.YtmjoebnphacadaaDoorW.PrintWords Go.Proofs.YtmjoebnphacadaaDoorW.PrintLast
set_option linter.unusedVariables false
set_option linter.unusedSimpArgs false
set_option maxRecDepth 100000 in
theorem new_lexer (s : ByteArray) (w : World) :
    Calls Tryd.prog 22 #[.string s] w fun x w' => x = .returned (.pointer (some ⟨w.heap.size, 0, none⟩)) ∧ LexAt w' w.heap.size 0 s .nilIface 0 0 0 0 0 ∧ Below w.heap.size w w' := by
  go_enter Tryd.func22, Tryd.ntmps22
  go_wp2
  go_ret
  have hb := heap_alloc_new w (.cells #[.string s, .nilIface, .int .i64 0, .int .i64 0, .int .i64 0, .int .i64 0, .int .i64 0] 74)
  refine ⟨rfl, ?_, below_alloc (Below.refl _ _) _⟩
  constructor
  all_goals
    first | unfold World.cell? | unfold World.frozen?
    rw [hb]
    rfl
set_option maxHeartbeats 1600000 in
set_option maxRecDepth 100000 in
theorem zz_data (k : Int) (v : ByteArray) (a p ca c : Int) (er : Value) (w : World) :
    Calls Tryd.prog 30 #[.agg #[.int .i64 k, .string v, .int .i64 a, .int .i64 p, .int .i64 ca, .int .i64 c], er] w fun x w' => x = .returned (.tuple #[.agg #[.int .i64 k, .string v, .int .i64 a, .int .i64 p, .int .i64 ca, .int .i64 c], er]) ∧ Below w.heap.size w w' := by
  go_enter Tryd.func30, Tryd.ntmps30
  go_wp2
  refine bodyPost_ret (v := .tuple #[.agg #[.int .i64 k, .string v, .int .i64 a, .int .i64 p, .int .i64 ca, .int .i64 c], er]) ?_ rfl ?_
  · simp [results]
    go_simp
  · exact ⟨rfl, below_alloc (below_alloc (Below.refl _ _) _) _⟩
section
variable {w : World} {B : Nat} {s : ByteArray} {p wd c : Nat}
set_option maxHeartbeats 3200000 in
set_option maxRecDepth 100000 in
theorem zz_scan {w0 : World} (hX : Cx w0 w B) (h : LexAt w B 0 s .nilIface p p wd c c) (hs : s.size ≤ 2147483647) (hp : p ≤ s.size) (hc : c ≤ p) :
    Calls Tryd.prog 23 #[.pointer (some ⟨B, 0, none⟩)] w (SPost w B 0 s (scanE s (s.size + 1) p c)) := by
  have HB := Aside0.mk h.lt
  have HX := Aside0.mk (hX.kept (Kept.alloc (Kept.refl B 0 w) h.lt (.cells #[.int .i64 0, .string ⟨#[]⟩, .int .i64 0, .int .i64 0, .int .i64 0, .int .i64 0] 49)))
  have HL0 := Aside0.mk (h.alloc (.cells #[.int .i64 0, .string ⟨#[]⟩, .int .i64 0, .int .i64 0, .int .i64 0, .int .i64 0] 49))
  have HG := Aside0.mk (heap_alloc_new w (.cells #[.int .i64 0, .string ⟨#[]⟩, .int .i64 0, .int .i64 0, .int .i64 0, .int .i64 0] 49))
  have HW := Aside0.mk (show Kept B 0 w (w.alloc (.cells #[.int .i64 0, .string ⟨#[]⟩, .int .i64 0, .int .i64 0, .int .i64 0, .int .i64 0] 49)) from Kept.alloc (Kept.refl B 0 w) h.lt _)
  have C := Aside0.mk (scan_calls HX.out HL0.out hs hp hc _ rfl)
  clear hX h hs hp hc
  have hne : w.heap.size ≠ B := by have := HB.out; omega
  go_enter Tryd.func23, Tryd.ntmps23
  go_wp2_with fail
  refine C.out.mono ?_
  clear C
  intro x w1 hO
  cases hV : scanE s (s.size + 1) p c with
  | eof q cq =>
    rw [hV] at hO
    obtain ⟨hk, rfl, wd1, hl⟩ := hO
    have HK := Aside0.mk hk
    have HL := Aside0.mk hl
    have HV := Aside0.mk hV
    clear hk hl hV
    unfold noTok
    go_wp2_with fail
    refine (zz_data _ _ _ _ _ _ _ w1).mono ?_
    rintro x w2 ⟨rfl, hb⟩
    have HL2 := Aside0.mk (HL.out.below hb HL.out.lt)
    have HK2 := Aside0.mk (HK.out.trans (Kept.of_below hb HL.out.lt))
    have hg := (HK2.out.block w.heap.size (by simp <;> omega) hne).trans HG.out
    obtain ⟨⟨n0, n1, n2, n3, n4, n5⟩, y0, y1, y2, y3, y4, y5⟩ := cells6 hg
    clear hb hg
    go_wp2
    refine bodyPost_ret (v := .tuple #[noTok, .nilIface]) ?_ rfl ?_
    · unfold noTok
      simp [results]
      go_simp
    · refine (show SPost w B 0 s (scanE s (s.size + 1) p c) _ _ from ?_)
      unfold SPost
      rw [HV.out]
      refine ⟨?_, rfl, wd1, ?_⟩
      · iterate 6 refine Kept.farB (by omega) HB.out ?_
        exact HW.out.trans HK2.out
      · iterate 6 refine LexAt.farB hne ?_
        exact HL2.out
  | bad =>
    rw [hV] at hO
    obtain ⟨hk, r, rfl, hr, a1, p1, wd1, ca1, c1, hl⟩ := hO
    obtain ⟨T, cs, rfl, hT⟩ := hr
    have HER := Aside0.mk (show LexErr (.iface T (.agg cs)) from ⟨T, cs, rfl, hT⟩)
    have HK := Aside0.mk hk
    have HL := Aside0.mk hl
    have HV := Aside0.mk hV
    clear hk hl hV hT
    unfold noTok
    go_wp2_with fail
    refine (zz_data _ _ _ _ _ _ _ w1).mono ?_
    rintro x w2 ⟨rfl, hb⟩
    have HL2 := Aside0.mk (HL.out.below hb HL.out.lt)
    have HK2 := Aside0.mk (HK.out.trans (Kept.of_below hb HL.out.lt))
    have hg := (HK2.out.block w.heap.size (by simp <;> omega) hne).trans HG.out
    obtain ⟨⟨n0, n1, n2, n3, n4, n5⟩, y0, y1, y2, y3, y4, y5⟩ := cells6 hg
    clear hb hg
    go_wp2
    refine bodyPost_ret (v := .tuple #[noTok, .iface T (.agg cs)]) ?_ rfl ?_
    · unfold noTok
      simp [results]
      go_simp
    · refine (show SPost w B 0 s (scanE s (s.size + 1) p c) _ _ from ?_)
      unfold SPost
      rw [HV.out]
      refine ⟨?_, _, rfl, HER.out, a1, p1, wd1, ca1, c1, ?_⟩
      · iterate 6 refine Kept.farB (by omega) HB.out ?_
        exact HW.out.trans HK2.out
      · iterate 6 refine LexAt.farB hne ?_
        exact HL2.out
  | tok k9 a9 E9 ca9 c9 =>
    rw [hV] at hO
    obtain ⟨hk, rfl, wd1, hl⟩ := hO
    have HK := Aside0.mk hk
    have HL := Aside0.mk hl
    have HV := Aside0.mk hV
    clear hk hl hV
    unfold tokV
    go_wp2_with fail
    refine (zz_data _ _ _ _ _ _ _ w1).mono ?_
    rintro x w2 ⟨rfl, hb⟩
    have HL2 := Aside0.mk (HL.out.below hb HL.out.lt)
    have HK2 := Aside0.mk (HK.out.trans (Kept.of_below hb HL.out.lt))
    have hg := (HK2.out.block w.heap.size (by simp <;> omega) hne).trans HG.out
    obtain ⟨⟨n0, n1, n2, n3, n4, n5⟩, y0, y1, y2, y3, y4, y5⟩ := cells6 hg
    clear hb hg
    go_wp2
    refine bodyPost_ret (v := .tuple #[tokV s k9 a9 E9 ca9 c9, .nilIface]) ?_ rfl ?_
    · unfold tokV
      simp [results]
      go_simp
    · refine (show SPost w B 0 s (scanE s (s.size + 1) p c) _ _ from ?_)
      unfold SPost
      rw [HV.out]
      refine ⟨?_, rfl, wd1, ?_⟩
      · iterate 6 refine Kept.farB (by omega) HB.out ?_
        exact HW.out.trans HK2.out
      · iterate 6 refine LexAt.farB hne ?_
        exact HL2.out
end
end Go.Proofs.YtmjoebnphacadaaDoor.Lex
