/- parse.lexer in memory: what its cells hold, what a call leaves as it was; next, rewind, skip, position. -/
import Derived.Test.YtmjoebnphacadaaDoorPz
import Derived.Lib.TrimUEq
import Derived.Lib.RuneCountTail
import Derived.Lib.MapLaws
import Derived.Deep.QuietTactic
import Derived.BigQuiet
import Derived.BigRegion
import Derived.Deep.RegionHeld3
namespace Go.Proofs.YtmjoebnphacadaaDoor.Lex
open Go.RowKit Go.Lib Go.Proofs.YtmjoebnphacadaaDoorW.PrintWords Go.Proofs.YtmjoebnphacadaaDoorW.PrintLast
set_option linter.unusedVariables false
set_option linter.unusedSimpArgs false
abbrev rn (s : ByteArray) (p : Nat) : Nat := (Utf8.decode s p).1
abbrev wdt (s : ByteArray) (p : Nat) : Nat := (Utf8.decode s p).2
theorem cs_other {w : World} {a b : Addr} {v : Value} (h : a ≠ b) : (w.setCell a v).cell? b = w.cell? b := World.cell?_setCell_other _ _ _ _ h
theorem cs_same {w : World} {a : Addr} {u v : Value} (h : w.cell? a = some u) : (w.setCell a v).cell? a = some v := World.cell?_setCell_same _ _ _ h
/-- A lexer in memory: its text, its error, where the token began, where it is, the last rune's width, and the columns of the two places. -/
structure LexAt (w : World) (B o : Nat) (s : ByteArray) (e : Value) (a p wd ca c : Nat) : Prop where
  c0 : w.cell? ⟨B, o, none⟩ = some (.string s)
  c1 : w.cell? ⟨B, o + 1, none⟩ = some e
  c2 : w.cell? ⟨B, o + 2, none⟩ = some (.int .i64 (a : Int))
  c3 : w.cell? ⟨B, o + 3, none⟩ = some (.int .i64 (p : Int))
  c4 : w.cell? ⟨B, o + 4, none⟩ = some (.int .i64 (wd : Int))
  c5 : w.cell? ⟨B, o + 5, none⟩ = some (.int .i64 (ca : Int))
  c6 : w.cell? ⟨B, o + 6, none⟩ = some (.int .i64 (c : Int))
  f1 : w.frozen? ⟨B, o + 1, none⟩ = false
  f2 : w.frozen? ⟨B, o + 2, none⟩ = false
  f3 : w.frozen? ⟨B, o + 3, none⟩ = false
  f4 : w.frozen? ⟨B, o + 4, none⟩ = false
  f5 : w.frozen? ⟨B, o + 5, none⟩ = false
  f6 : w.frozen? ⟨B, o + 6, none⟩ = false
/-- What a call may change of the memory that was there: the cells from o on of one block. -/
structure Kept (B o : Nat) (w w' : World) : Prop where
  os : w'.os = w.os
  tape : w'.tape = w.tape
  output : w'.output = w.output
  size : w.heap.size ≤ w'.heap.size
  block : ∀ k, k < w.heap.size → k ≠ B → w'.heap[k]? = w.heap[k]?
  cell : ∀ i, i < o → w'.cell? ⟨B, i, none⟩ = w.cell? ⟨B, i, none⟩
  froz : ∀ i, w'.frozen? ⟨B, i, none⟩ = w.frozen? ⟨B, i, none⟩
theorem Kept.refl (B o : Nat) (w : World) : Kept B o w w := ⟨rfl, rfl, rfl, Nat.le_refl _, fun _ _ _ => rfl, fun _ _ => rfl, fun _ => rfl⟩
theorem Kept.trans {B o : Nat} {a b c : World} (h : Kept B o a b) (k : Kept B o b c) : Kept B o a c :=
  ⟨k.os.trans h.os, k.tape.trans h.tape, k.output.trans h.output, Nat.le_trans h.size k.size, fun i hi hb => (k.block i (Nat.lt_of_lt_of_le hi h.size) hb).trans (h.block i hi hb),
    fun i hi => (k.cell i hi).trans (h.cell i hi), fun i => (k.froz i).trans (h.froz i)⟩
theorem LexAt.lt {w : World} {B o : Nat} {s : ByteArray} {e : Value} {a p wd ca c : Nat} (h : LexAt w B o s e a p wd ca c) : B < w.heap.size := World.block_lt_of_cell? w _ h.c0
theorem Kept.of_below {B o : Nat} {w w' : World} (h : Below w.heap.size w w') (hB : B < w.heap.size) : Kept B o w w' :=
  ⟨h.os, h.tape, h.output, h.size, fun k hk _ => h.block k hk, fun _ _ => h.cell hB, fun _ => h.frozen hB⟩
theorem Kept.below {B o base : Nat} {w w' : World} (h : Kept B o w w') (hB : base ≤ B) (hs : base ≤ w.heap.size) : Below base w w' :=
  ⟨h.os, h.tape, h.output, h.size, fun k hk => h.block k (by omega) (by omega)⟩
theorem Kept.set {B o i : Nat} {w w' : World} (h : Kept B o w w') (hi : o ≤ i) (v : Value) : Kept B o w (w'.setCell ⟨B, i, none⟩ v) :=
  ⟨h.os, h.tape, h.output, by simpa using h.size, fun k hk hb => (Below.heap_setCell w' _ v k hb).trans (h.block k hk hb),
    fun j hj => (cs_other (by intro e; injection e with _ e2 _; omega)).trans (h.cell j hj), fun j => by rw [World.frozen?_setCell]; exact h.froz j⟩
theorem Kept.alloc {B o : Nat} {w w' : World} (h : Kept B o w w') (hB : B < w.heap.size) (x : Obj) : Kept B o w (w'.alloc x) :=
  h.trans (Kept.of_below (below_alloc (Below.refl _ _) _) (Nat.lt_of_lt_of_le hB h.size))
theorem Kept.drew {B o : Nat} {w w' : World} (h : Kept B o w w') : Kept B o w w'.drew := ⟨h.os, h.tape, h.output, h.size, h.block, h.cell, h.froz⟩
theorem LexAt.below {w w' : World} {B o n : Nat} {s : ByteArray} {e : Value} {a p wd ca c : Nat} (h : LexAt w B o s e a p wd ca c) (hb : Below n w w') (hn : B < n) : LexAt w' B o s e a p wd ca c :=
  ⟨(hb.cell hn).trans h.c0, (hb.cell hn).trans h.c1, (hb.cell hn).trans h.c2, (hb.cell hn).trans h.c3, (hb.cell hn).trans h.c4, (hb.cell hn).trans h.c5, (hb.cell hn).trans h.c6,
    (hb.frozen hn).trans h.f1, (hb.frozen hn).trans h.f2, (hb.frozen hn).trans h.f3, (hb.frozen hn).trans h.f4, (hb.frozen hn).trans h.f5, (hb.frozen hn).trans h.f6⟩
theorem LexAt.drew {w : World} {B o : Nat} {s : ByteArray} {e : Value} {a p wd ca c : Nat} (h : LexAt w B o s e a p wd ca c) : LexAt w.drew B o s e a p wd ca c := h.below (Below.refl w.heap.size w).drew h.lt
theorem LexAt.alloc {w : World} {B o : Nat} {s : ByteArray} {e : Value} {a p wd ca c : Nat} (h : LexAt w B o s e a p wd ca c) (x : Obj) : LexAt (w.alloc x) B o s e a p wd ca c := h.below (below_alloc (Below.refl w.heap.size w) x) h.lt
theorem new_alloc (w : World) (x : Obj) (n : Nat) (h : n = w.heap.size) : (w.alloc x).heap[n]? = some x := by subst h; exact heap_alloc_new w x
/-- What a block of six cells says of its cells. -/
theorem cells6 {w : World} {g : Nat} {t : TypeId} {v0 v1 v2 v3 v4 v5 : Value} (h : w.heap[g]? = some (.cells #[v0, v1, v2, v3, v4, v5] t (0, 0))) :
    (w.cell? ⟨g, 0, none⟩ = some v0 ∧ w.cell? ⟨g, 1, none⟩ = some v1 ∧ w.cell? ⟨g, 2, none⟩ = some v2 ∧ w.cell? ⟨g, 3, none⟩ = some v3 ∧ w.cell? ⟨g, 4, none⟩ = some v4 ∧ w.cell? ⟨g, 5, none⟩ = some v5) ∧
    (w.frozen? ⟨g, 0, none⟩ = false ∧ w.frozen? ⟨g, 1, none⟩ = false ∧ w.frozen? ⟨g, 2, none⟩ = false ∧ w.frozen? ⟨g, 3, none⟩ = false ∧ w.frozen? ⟨g, 4, none⟩ = false ∧ w.frozen? ⟨g, 5, none⟩ = false) := by
  unfold World.cell? World.frozen?
  rw [h]
  exact ⟨⟨rfl, rfl, rfl, rfl, rfl, rfl⟩, ⟨rfl, rfl, rfl, rfl, rfl, rfl⟩⟩
section
variable {w : World} {B o : Nat} {s : ByteArray} {e : Value} {a p wd ca c : Nat}
theorem ne_at {i j : Nat} (h : i ≠ j) : (⟨B, i, none⟩ : Addr) ≠ ⟨B, j, none⟩ := by intro e; injection e with _ e2 _; exact h e2
theorem LexAt.set1 (h : LexAt w B o s e a p wd ca c) (v : Value) : LexAt (w.setCell ⟨B, o + 1, none⟩ v) B o s v a p wd ca c :=
  ⟨(cs_other (ne_at (by omega))).trans h.c0, cs_same h.c1, (cs_other (ne_at (by omega))).trans h.c2, (cs_other (ne_at (by omega))).trans h.c3, (cs_other (ne_at (by omega))).trans h.c4,
    (cs_other (ne_at (by omega))).trans h.c5, (cs_other (ne_at (by omega))).trans h.c6, by simpa using h.f1, by simpa using h.f2, by simpa using h.f3, by simpa using h.f4, by simpa using h.f5, by simpa using h.f6⟩
theorem LexAt.set2 (h : LexAt w B o s e a p wd ca c) {n : Nat} {v : Value} (hv : v = .int .i64 (n : Int)) : LexAt (w.setCell ⟨B, o + 2, none⟩ v) B o s e n p wd ca c := by
  subst hv
  exact ⟨(cs_other (ne_at (by omega))).trans h.c0, (cs_other (ne_at (by omega))).trans h.c1, cs_same h.c2, (cs_other (ne_at (by omega))).trans h.c3, (cs_other (ne_at (by omega))).trans h.c4,
    (cs_other (ne_at (by omega))).trans h.c5, (cs_other (ne_at (by omega))).trans h.c6, by simpa using h.f1, by simpa using h.f2, by simpa using h.f3, by simpa using h.f4, by simpa using h.f5, by simpa using h.f6⟩
theorem LexAt.set3 (h : LexAt w B o s e a p wd ca c) {n : Nat} {v : Value} (hv : v = .int .i64 (n : Int)) : LexAt (w.setCell ⟨B, o + 3, none⟩ v) B o s e a n wd ca c := by
  subst hv
  exact ⟨(cs_other (ne_at (by omega))).trans h.c0, (cs_other (ne_at (by omega))).trans h.c1, (cs_other (ne_at (by omega))).trans h.c2, cs_same h.c3, (cs_other (ne_at (by omega))).trans h.c4,
    (cs_other (ne_at (by omega))).trans h.c5, (cs_other (ne_at (by omega))).trans h.c6, by simpa using h.f1, by simpa using h.f2, by simpa using h.f3, by simpa using h.f4, by simpa using h.f5, by simpa using h.f6⟩
theorem LexAt.set4 (h : LexAt w B o s e a p wd ca c) {n : Nat} {v : Value} (hv : v = .int .i64 (n : Int)) : LexAt (w.setCell ⟨B, o + 4, none⟩ v) B o s e a p n ca c := by
  subst hv
  exact ⟨(cs_other (ne_at (by omega))).trans h.c0, (cs_other (ne_at (by omega))).trans h.c1, (cs_other (ne_at (by omega))).trans h.c2, (cs_other (ne_at (by omega))).trans h.c3, cs_same h.c4,
    (cs_other (ne_at (by omega))).trans h.c5, (cs_other (ne_at (by omega))).trans h.c6, by simpa using h.f1, by simpa using h.f2, by simpa using h.f3, by simpa using h.f4, by simpa using h.f5, by simpa using h.f6⟩
theorem LexAt.set5 (h : LexAt w B o s e a p wd ca c) {n : Nat} {v : Value} (hv : v = .int .i64 (n : Int)) : LexAt (w.setCell ⟨B, o + 5, none⟩ v) B o s e a p wd n c := by
  subst hv
  exact ⟨(cs_other (ne_at (by omega))).trans h.c0, (cs_other (ne_at (by omega))).trans h.c1, (cs_other (ne_at (by omega))).trans h.c2, (cs_other (ne_at (by omega))).trans h.c3, (cs_other (ne_at (by omega))).trans h.c4,
    cs_same h.c5, (cs_other (ne_at (by omega))).trans h.c6, by simpa using h.f1, by simpa using h.f2, by simpa using h.f3, by simpa using h.f4, by simpa using h.f5, by simpa using h.f6⟩
theorem LexAt.set6 (h : LexAt w B o s e a p wd ca c) {n : Nat} {v : Value} (hv : v = .int .i64 (n : Int)) : LexAt (w.setCell ⟨B, o + 6, none⟩ v) B o s e a p wd ca n := by
  subst hv
  exact ⟨(cs_other (ne_at (by omega))).trans h.c0, (cs_other (ne_at (by omega))).trans h.c1, (cs_other (ne_at (by omega))).trans h.c2, (cs_other (ne_at (by omega))).trans h.c3, (cs_other (ne_at (by omega))).trans h.c4,
    (cs_other (ne_at (by omega))).trans h.c5, cs_same h.c6, by simpa using h.f1, by simpa using h.f2, by simpa using h.f3, by simpa using h.f4, by simpa using h.f5, by simpa using h.f6⟩
end
/-- The tables that the lexer reads. -/
def LT (w : World) : Prop := Lib.Utf8Tabs 0 1 w ∧ Lib.WhiteTab 2 w
theorem LT.below {w w' : World} (h : LT w) (hb : Below w.heap.size w w') : LT w' := ⟨Utf8Tabs_below h.1 hb, WhiteTab_below h.2 hb⟩
/-- A world behind one that has the tables, and a lexer's block that lies above it. -/
structure Cx (w0 w : World) (B : Nat) : Prop where
  t : LT w0
  b : Below w0.heap.size w0 w
  h : w0.heap.size ≤ B
theorem Cx.lt {w0 w : World} {B : Nat} (h : Cx w0 w B) : LT w := h.t.below h.b
theorem Cx.kept {w0 w w' : World} {B o : Nat} (h : Cx w0 w B) (k : Kept B o w w') : Cx w0 w' B := ⟨h.t, h.b.trans (k.below h.h h.b.size), h.h⟩
theorem LexAt.far {w : World} {B o : Nat} {s : ByteArray} {e : Value} {a p wd ca c : Nat} (h : LexAt w B o s e a p wd ca c) {q : Addr} (hq : q.block ≠ B) (v : Value) : LexAt (w.setCell q v) B o s e a p wd ca c := by
  have hne : ∀ i, q ≠ ⟨B, i, none⟩ := fun i e => hq (by rw [e])
  exact ⟨(cs_other (hne _)).trans h.c0, (cs_other (hne _)).trans h.c1, (cs_other (hne _)).trans h.c2, (cs_other (hne _)).trans h.c3, (cs_other (hne _)).trans h.c4, (cs_other (hne _)).trans h.c5, (cs_other (hne _)).trans h.c6,
    by simpa using h.f1, by simpa using h.f2, by simpa using h.f3, by simpa using h.f4, by simpa using h.f5, by simpa using h.f6⟩
theorem Kept.far {B o : Nat} {w w' : World} (h : Kept B o w w') {q : Addr} (hq : w.heap.size ≤ q.block) (hB : B < w.heap.size) (v : Value) : Kept B o w (w'.setCell q v) :=
  ⟨h.os, h.tape, h.output, by simpa using h.size, fun k hk hb => (Below.heap_setCell w' _ v k (by omega)).trans (h.block k hk hb),
    fun j hj => (cs_other (by intro e; rw [e] at hq; simp at hq; omega)).trans (h.cell j hj), fun j => by rw [World.frozen?_setCell]; exact h.froz j⟩
theorem LexAt.farB {w : World} {B o g i : Nat} {s : ByteArray} {e : Value} {a p wd ca c : Nat} {v : Value} (hg : g ≠ B) (h : LexAt w B o s e a p wd ca c) : LexAt (w.setCell ⟨g, i, none⟩ v) B o s e a p wd ca c := h.far hg v
theorem Kept.farB {B o g i : Nat} {w w' : World} {v : Value} (hg : w.heap.size ≤ g) (hB : B < w.heap.size) (h : Kept B o w w') : Kept B o w (w'.setCell ⟨g, i, none⟩ v) := h.far hg hB v
theorem LexAt.drewN {w : World} {B o : Nat} {s : ByteArray} {e : Value} {a p wd ca c : Nat} (h : LexAt w B o s e a p wd ca c) (q : Nat) : LexAt (w.drewN q) B o s e a p wd ca c := h.below (pw_below_drewN (Below.refl w.heap.size w) q) h.lt
theorem Kept.drewN {B o : Nat} {w w' : World} (h : Kept B o w w') (hB : B < w.heap.size) (q : Nat) : Kept B o w (w'.drewN q) := h.trans (Kept.of_below (pw_below_drewN (Below.refl w'.heap.size w') q) (Nat.lt_of_lt_of_le hB h.size))
section
variable {w : World} {B o : Nat} {s : ByteArray} {e : Value} {a p wd ca c : Nat}
set_option maxRecDepth 100000 in
theorem next_eof (h : LexAt w B o s e a p wd ca c) (hp : ¬ p < s.size) :
    Calls Tryd.prog 36 #[.pointer (some ⟨B, o, none⟩)] w fun x w' => x = .returned (.int .i32 (-1)) ∧ LexAt w' B o s e a p 0 ca c ∧ Kept B o w w' := by
  have H := Aside0.mk h
  have HL := Aside0.mk h.lt
  obtain ⟨c0, c1, c2, c3, c4, c5, c6, f1, f2, f3, f4, f5, f6⟩ := h
  have hge : (p : Int) ≥ (s.size : Int) := by omega
  clear hp c1 c2 c5 c6 f1 f2 f3 f5 f6
  go_enter Tryd.func36, Tryd.ntmps36
  go_wp2
  go_quiet (fail)
  go_wp2
  go_ret
  exact ⟨rfl, by repeat (first | exact H.out | exact LexAt.set4 H.out rfl | exact LexAt.set4 (LexAt.drewN H.out _) rfl | apply LexAt.drewN), by repeat (first | exact Kept.refl _ _ _ | exact HL.out | apply Kept.drewN | (refine Kept.set ?_ (by omega) _))⟩
set_option maxRecDepth 100000 in
theorem skip_calls (h : LexAt w B o s e a p wd ca c) :
    Calls Tryd.prog 43 #[.pointer (some ⟨B, o, none⟩)] w fun x w' => x = .returned (.tuple #[]) ∧ LexAt w' B o s e p p wd c c ∧ Kept B o w w' := by
  have H := Aside0.mk h
  obtain ⟨c0, c1, c2, c3, c4, c5, c6, f1, f2, f3, f4, f5, f6⟩ := h
  clear c0 c1 c4 f1 f3 f4 f6
  go_enter Tryd.func43, Tryd.ntmps43
  go_wp2
  go_end0
  exact ⟨rfl, LexAt.set5 (LexAt.set2 H.out rfl) rfl, Kept.set (Kept.set (Kept.refl _ _ _) (by omega) _) (by omega) _⟩
theorem adv_le (s : ByteArray) (p : Nat) (hp : p < s.size) : p + wdt s p ≤ s.size := by
  have h := Lib.decodeL_le (s.data.toList.drop p) (by
    intro e
    have := congrArg List.length e
    rw [List.length_drop, Array.length_toList] at this
    have e1 : s.data.size = s.size := rfl
    simp at this
    omega)
  rw [Lib.decodeL_drop, List.length_drop, Array.length_toList] at h
  have e1 : s.data.size = s.size := rfl
  show p + (Utf8.decode s p).2 ≤ s.size
  omega
theorem adv_pos (s : ByteArray) (p : Nat) : 1 ≤ wdt s p := Lib.width_pos s p
theorem wrap_add {a b : Nat} (h : a + b ≤ 4294967295) : wrap64 ((a : Int) + (b : Int)) = ((a + b : Nat) : Int) := by unfold wrap64; omega
theorem wrap_one {a : Nat} (h : a ≤ 4294967295) : wrap64 ((a : Int) + 1) = ((a + 1 : Nat) : Int) := by unfold wrap64; omega
theorem suf_size (s : ByteArray) (p : Nat) (hp : p < s.size) : (Lib.decodeGo (s.extract p s.size)) = Utf8.decode s p := by
  have h := Lib.tail_decode s p 0
  unfold Lib.decodeGo
  rw [if_neg (by rw [ByteArray.size_extract]; omega)]
  exact h
set_option maxRecDepth 100000 in
theorem next_rune {w0 : World} (hX : Cx w0 w B) (h : LexAt w B o s e a p wd ca c) (hp : p < s.size) (hs : s.size ≤ 2147483647) (hc : c ≤ p) :
    Calls Tryd.prog 36 #[.pointer (some ⟨B, o, none⟩)] w fun x w' => x = .returned (.int .i32 (rn s p : Int)) ∧ LexAt w' B o s e a (p + wdt s p) (wdt s p) ca (c + 1) ∧ Kept B o w w' := by
  have H := Aside0.mk h
  have HL := Aside0.mk h.lt
  have HX := Aside0.mk hX
  obtain ⟨c0, c1, c2, c3, c4, c5, c6, f1, f2, f3, f4, f5, f6⟩ := h
  have hge : ¬ (p : Int) ≥ (s.size : Int) := by omega
  have hd := suf_size s p hp
  have D := Aside0.mk (fun W hT => Tryd.utf8_DecodeRuneInString (s.extract p s.size) W hT)
  rw [hd] at D
  clear hd c1 c2 c5 f1 f2 f5 hX
  go_enter Tryd.func36, Tryd.ntmps36
  go_wp2
  go_quiet (fail)
  go_wp2_with fail
  go_region_with (go_at_call 48; refine (D.out _ (HX.out.kept (Kept.drewN (Kept.refl B o w) HL.out _)).lt.1).mono ?_; rintro x w1 ⟨rfl, hb⟩; have H1 := Aside0.mk ((H.out.drewN _).below hb (H.out.drewN _).lt); have K1 := Aside0.mk ((Kept.drewN (Kept.refl B o w) HL.out _).trans (Kept.of_below hb (H.out.drewN _).lt)); clear hb c0 c3 c4 c6 f3 f4 f6; have c3 := H1.out.c3; have c4 := H1.out.c4; have c6 := H1.out.c6; have f3 := H1.out.f3; have f4 := H1.out.f4; have f6 := H1.out.f6)
  all_goals
    have e3 := wrap_add (a := p) (b := wdt s p) (by have := adv_le s p hp; omega)
    have e6 := wrap_one (a := c) (by omega)
    have E3 := Aside0.mk e3
    have E6 := Aside0.mk e6
    clear e3 e6
    go_wp2
    go_ret
    refine ⟨rfl, ?_, ?_⟩
    · exact LexAt.set6 (LexAt.set3 (LexAt.set4 H1.out rfl) (by first | exact congrArg (Value.int .i64) E3.out | rfl)) (by first | exact congrArg (Value.int .i64) E6.out | rfl)
    · exact Kept.set (Kept.set (Kept.set K1.out (by omega) _) (by omega) _) (by omega) _
end
end Go.Proofs.YtmjoebnphacadaaDoor.Lex
