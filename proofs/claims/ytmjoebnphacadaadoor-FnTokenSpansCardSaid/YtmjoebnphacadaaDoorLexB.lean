/- parse.lexer: rewind, position, emit, accept, expect; parse.isReserved. -/
import Derived.Test.YtmjoebnphacadaaDoorLexA
namespace Go.Proofs.YtmjoebnphacadaaDoor.Lex
open Go.RowKit Go.Lib Go.Proofs.YtmjoebnphacadaaDoorW.PrintWords Go.Proofs.YtmjoebnphacadaaDoorW.PrintLast
set_option linter.unusedVariables false
set_option linter.unusedSimpArgs false
section
variable {w : World} {B o : Nat} {s : ByteArray} {e : Value} {a p wd ca c : Nat}
theorem wrap_sub {a b : Nat} (h : b ≤ a) (ha : a ≤ 4294967295) : wrap64 ((a : Int) - (b : Int)) = ((a - b : Nat) : Int) := by unfold wrap64; omega
theorem wrap_pred {a : Nat} (h : 1 ≤ a) (ha : a ≤ 4294967295) : wrap64 ((a : Int) - 1) = ((a - 1 : Nat) : Int) := by unfold wrap64; omega
set_option maxRecDepth 100000 in
theorem rewind_calls (h : LexAt w B o s e a p wd ca c) (hw : wd ≤ p) (hp : p ≤ 4294967295) (hc : 1 ≤ c ∨ wd = 0) (hc2 : c ≤ 4294967295) :
    Calls Tryd.prog 38 #[.pointer (some ⟨B, o, none⟩)] w fun x w' => x = .returned (.tuple #[]) ∧ LexAt w' B o s e a (p - wd) wd ca (if wd = 0 then c else c - 1) ∧ Kept B o w w' := by
  have H := Aside0.mk h
  have HL := Aside0.mk h.lt
  have E3 := Aside0.mk (wrap_sub hw hp)
  by_cases h0 : wd = 0
  · subst h0
    have g0 : ¬ (((0 : Nat) : Int) > 0) := by omega
    simp only [if_true]
    obtain ⟨c0, c1, c2, c3, c4, c5, c6, f1, f2, f3, f4, f5, f6⟩ := h
    have E3 := Aside0.mk (show Value.int .i64 (wrap64 (p : Int)) = .int .i64 ((p - 0 : Nat) : Int) by congr 1; unfold wrap64; omega)
    clear c0 c1 c2 c5 f1 f2 f5 hw hc hc2 hp
    go_enter Tryd.func38, Tryd.ntmps38
    go_wp2
    go_region
    all_goals
      go_wp2
      go_end0
      refine ⟨rfl, (H.out.set3 ?_).drew, ((Kept.refl B o w).set (by omega) _).drew⟩
      exact E3.out
  · have g0 : ((wd : Nat) : Int) > 0 := by omega
    rw [if_neg h0]
    have E6 := Aside0.mk (wrap_pred (a := c) (by omega) hc2)
    obtain ⟨c0, c1, c2, c3, c4, c5, c6, f1, f2, f3, f4, f5, f6⟩ := h
    clear c0 c1 c2 c5 f1 f2 f5 hw hc hc2 hp h0
    go_enter Tryd.func38, Tryd.ntmps38
    go_wp2
    go_region
    all_goals
      go_wp2
      go_end0
      refine ⟨rfl, ?_, ?_⟩
      · first
          | exact ((H.out.set3 (congrArg (Value.int .i64) E3.out)).set6 (congrArg (Value.int .i64) E6.out)).drew
          | exact ((H.out.set3 (congrArg (Value.int .i64) E3.out)).drew.set6 (congrArg (Value.int .i64) E6.out))
      · first
          | exact (((Kept.refl B o w).set (by omega) _).set (by omega) _).drew
          | exact (((Kept.refl B o w).set (by omega) _).drew.set (by omega) _)
set_option maxRecDepth 100000 in
theorem position_calls (h : LexAt w B o s e a p wd ca c) :
    Calls Tryd.prog 44 #[.pointer (some ⟨B, o, none⟩)] w fun x w' => x = .returned (.agg #[.int .i64 (a : Int), .int .i64 (p : Int), .int .i64 (ca : Int), .int .i64 (c : Int)]) ∧ Below w.heap.size w w' := by
  have HL := Aside0.mk h.lt
  obtain ⟨c0, c1, c2, c3, c4, c5, c6, f1, f2, f3, f4, f5, f6⟩ := h
  clear c0 c1 c4 f1 f2 f3 f4 f5 f6
  have hne : B ≠ w.heap.size := by have := HL.out; omega
  go_enter Tryd.func44, Tryd.ntmps44
  go_wp2
  go_region_held3 (fun w' => w'.cell? ⟨B, o + 2, none⟩ = some (.int .i64 (a : Int)) ∧ w'.cell? ⟨B, o + 3, none⟩ = some (.int .i64 (p : Int)) ∧ w'.cell? ⟨B, o + 5, none⟩ = some (.int .i64 (ca : Int)) ∧ w'.cell? ⟨B, o + 6, none⟩ = some (.int .i64 (c : Int))) (go_keep) (fail)
  all_goals (try go_wp2)
  refine bodyPost_ret (v := .agg #[.int .i64 (a : Int), .int .i64 (p : Int), .int .i64 (ca : Int), .int .i64 (c : Int)]) ?_ rfl ?_
  · simp [results]
    go_simp
  · exact ⟨rfl, by repeat (first | exact below_alloc (Below.refl _ _) _ | apply below_drew1 | apply pw_below_drewN)⟩
set_option maxHeartbeats 1600000 in
set_option maxRecDepth 100000 in
theorem emit_calls (k : Nat) (h : LexAt w B o s e a p wd ca c) (hap : a ≤ p) (hp : p ≤ s.size) :
    Calls Tryd.prog 37 #[.pointer (some ⟨B, o, none⟩), .int .i64 (k : Int)] w fun x w' =>
      x = .returned (.agg #[.int .i64 (k : Int), .string (s.extract a p), .int .i64 (a : Int), .int .i64 (p : Int), .int .i64 (ca : Int), .int .i64 (c : Int)]) ∧ LexAt w' B o s e p p wd c c ∧ Kept B o w w' := by
  have HL := Aside0.mk h.lt
  have H := Aside0.mk h
  have CS := Aside0.mk (show ∀ W, Below w.heap.size w W → LexAt W B o s e a p wd ca c from fun W hb => h.below hb h.lt)
  obtain ⟨c0, c1, c2, c3, c4, c5, c6, f1, f2, f3, f4, f5, f6⟩ := h
  clear c1 c4 f1 f2 f3 f4 f5 f6 c5 c6
  have q1 : ¬ ((p : Int) < (a : Int)) := by omega
  have q2 : ¬ ((s.size : Int) < (p : Int)) := by omega
  have hne : B ≠ w.heap.size := by have := HL.out; omega
  have hne' : w.heap.size ≠ B := fun e => hne e.symm
  have hne1 : B ≠ w.heap.size + 1 := by have := HL.out; omega
  have hne1' : w.heap.size + 1 ≠ B := fun e => hne1 e.symm
  go_enter Tryd.func37, Tryd.ntmps37
  go_wp2
  go_region_held3 (fun w' => w'.cell? ⟨B, o, none⟩ = some (.string s) ∧ w'.cell? ⟨B, o + 2, none⟩ = some (.int .i64 (a : Int)) ∧ w'.cell? ⟨B, o + 3, none⟩ = some (.int .i64 (p : Int))) (go_keep) (first
    | (go_at_call 44; refine (position_calls (CS.out _ (by repeat (first | exact Below.refl _ _ | apply below_drew1 | apply pw_below_drewN | apply below_alloc)))).mono ?_; rintro x w1 ⟨rfl, hb⟩; have HB1 := Aside0.mk (below_step (w := w) (by repeat (first | exact Below.refl _ _ | apply below_drew1 | apply pw_below_drewN | apply below_alloc)) hb); (first | (have k0 := (hb.block w.heap.size (by simp <;> omega)).trans ((Below.heap_alloc _ _ _ (by simp)).trans (heap_alloc_new w _)); have k1 := (hb.block (w.heap.size + 1) (by simp)).trans (new_alloc _ _ _ (by simp)); obtain ⟨⟨m0, m1, m2, m3, m4, m5⟩, z0, z1, z2, z3, z4, z5⟩ := cells6 k1; obtain ⟨⟨n0, n1, n2, n3, n4, n5⟩, y0, y1, y2, y3, y4, y5⟩ := cells6 k0; clear k0 k1) | (have k0 := (hb.block w.heap.size (by simp)).trans (heap_alloc_new w _); obtain ⟨⟨n0, n1, n2, n3, n4, n5⟩, y0, y1, y2, y3, y4, y5⟩ := cells6 k0; clear k0)); have HW1 := Aside0.mk (show w.heap.size < w1.heap.size by (have hz := hb.size; simp at hz; first | exact hz | omega)); clear hb c0 c2 c3; have H1 := Aside0.mk (CS.out _ HB1.out); have c0 := H1.out.c0; have c2 := H1.out.c2; have c3 := H1.out.c3; have c5 := H1.out.c5; have c6 := H1.out.c6; have f2 := H1.out.f2; have f5 := H1.out.f5; have hw1 : w.heap.size < w1.heap.size := HW1.out; have hne3 : B ≠ w1.heap.size := Nat.ne_of_lt (Nat.lt_trans HL.out HW1.out); have hne3' : w1.heap.size ≠ B := fun e => hne3 e.symm; have hne4 : w.heap.size ≠ w1.heap.size := Nat.ne_of_lt HW1.out; have hne4' : w1.heap.size ≠ w.heap.size := fun e => hne4 e.symm))
  all_goals
    have f2a := fun x => (H1.out.alloc x).f2
    have f5a := fun x => (H1.out.alloc x).f5
    have c2a := fun x => (H1.out.alloc x).c2
    have c3a := fun x => (H1.out.alloc x).c3
    have c5a := fun x => (H1.out.alloc x).c5
    have c6a := fun x => (H1.out.alloc x).c6
    go_wp2
  · refine bodyPost_ret (v := .agg #[.int .i64 (k : Int), .string (s.extract a p), .int .i64 (a : Int), .int .i64 (p : Int), .int .i64 (ca : Int), .int .i64 (c : Int)]) ?_ rfl ?_
    · simp [results]
      go_simp
    · refine ⟨rfl, ?_, ?_⟩
      · iterate 6 refine LexAt.farB (by assumption) ?_
        refine LexAt.set5 (ca := ca) ?_ rfl
        refine LexAt.set2 (a := a) ?_ rfl
        exact LexAt.alloc H1.out _
      · iterate 6 refine Kept.farB (by omega) HL.out ?_
        refine Kept.set ?_ (by omega) _
        refine Kept.set ?_ (by omega) _
        exact Kept.alloc (Kept.of_below HB1.out HL.out) HL.out _
  · refine bodyPost_ret (v := .agg #[.int .i64 (k : Int), .string (s.extract a p), .int .i64 (a : Int), .int .i64 (p : Int), .int .i64 (ca : Int), .int .i64 (c : Int)]) ?_ rfl ?_
    · simp [results]
      go_simp
    · refine ⟨rfl, ?_, ?_⟩
      · iterate 6 refine LexAt.farB (by assumption) ?_
        refine LexAt.set5 (ca := ca) ?_ rfl
        refine LexAt.set2 (a := a) ?_ rfl
        iterate 6 refine LexAt.farB (by assumption) ?_
        exact H1.out
      · iterate 6 refine Kept.farB (by omega) HL.out ?_
        refine Kept.set ?_ (by omega) _
        refine Kept.set ?_ (by omega) _
        iterate 6 refine Kept.farB (by omega) HL.out ?_
        exact Kept.of_below HB1.out HL.out
end
end Go.Proofs.YtmjoebnphacadaaDoor.Lex
