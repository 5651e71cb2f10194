/- Joined by wip/tools/pack.py: what the claim uses of Mc Qx6 Qx1 Qx7 Qx8 Qx21 Qx22 Qx23. No conditions beyond each theorem's own. -/
import Derived.Test.YtmjoebnphacadaaGreatDoorP0
import Derived.Test.YtmjoebnphacadaaGreatDoorP2
import Derived.Defers
import Derived.Recover
import Derived.Deep.RegionHeld3
/- The parser, joined by wip/tools/merge.py: Box Pl Pm Pn Po Pp Pq Ts. No conditions beyond each theorem's own. -/
/- A kind of values: a pointer to a block that holds one value; used for lists of pointers. -/
set_option linter.unusedVariables false
set_option linter.unusedSimpArgs false
namespace Go.Proofs.YtmjoebnphacadaaGreatDoor.Box
open Go.RowKit Go.Proofs.YtmjoebnphacadaaGreatDoorW.PrintWords Go.Proofs.YtmjoebnphacadaaGreatDoorW.PrintLast
/-- What a pointer leads to, the pointer in one cell: a block of type T that holds just the value. -/
def box {α : Type} (T : Nat) (d : Kd α) : Kd α where
  sz := 1
  E := T :: d.E
  K := fun w x cs => ∃ g cs', cs = [.pointer (some ⟨g, 0, none⟩)] ∧ w.heap[g]? = some (.cells cs' T (0, 0)) ∧ d.K w x cs'.toList
  M := fun w base ok x cs => ∃ g cs', cs = [.pointer (some ⟨g, 0, none⟩)] ∧ ok g ∧ base ≤ g ∧ w.heap[g]? = some (.cells cs' T (0, 0)) ∧ d.M w base ok x cs'.toList
  K_len := fun ⟨_, _, e, _⟩ => by rw [e]; rfl
  K_one := fun ⟨_, _, e, _⟩ u hu => by
    rw [e] at hu
    obtain rfl := List.mem_singleton.1 hu
    rfl
  K_below := fun {w w1 x cs} hb ⟨g, cs', e, hg, hk⟩ => ⟨g, cs', e, (hb.block g (Array.getElem?_eq_some_iff.1 hg).1).trans hg, d.K_below hb hk⟩
  K_of_M := fun ⟨g, cs', e, _, _, hg, hk⟩ => ⟨g, cs', e, hg, d.K_of_M hk⟩
  M_mono := fun h ⟨g, cs', e, ho, hb, hg, hk⟩ => ⟨g, cs', e, h g ho, hb, hg, d.M_mono h hk⟩
  M_bound := fun {w base ok x cs} ⟨g, cs', e, ho, hb, hg, hk⟩ => ⟨g, cs', e, ⟨ho, hb, (Array.getElem?_eq_some_iff.1 hg).1, T, List.mem_cons_self, cs', hg⟩, hb, hg,
    d.M_mono (fun k hk' => ⟨hk'.1, hk'.2.1, hk'.2.2.1, by obtain ⟨q, hq, hc⟩ := hk'.2.2.2; exact ⟨q, List.mem_cons_of_mem _ hq, hc⟩⟩) (d.M_bound hk)⟩
  M_move := fun h ⟨g, cs', e, ho, hb, hg, hk⟩ => ⟨g, cs', e, ho, hb, (h g ho).trans hg, d.M_move h hk⟩
  M_lower := fun h ⟨g, cs', e, ho, hb, hg, hk⟩ => ⟨g, cs', e, ho, Nat.le_trans h hb, hg, d.M_lower h hk⟩
theorem new_at {W : World} {n : Nat} (h : W.heap.size = n) (o : Obj) : (W.alloc o).heap[n]? = some o := by
  subst h
  exact blk_new W o
end Go.Proofs.YtmjoebnphacadaaGreatDoor.Box
/- parse.parser: what parseMatcher asks of the scanner and of memory. -/
namespace Go.Proofs.YtmjoebnphacadaaGreatDoor.Lex
open Go.RowKit Go.Lib Go.Proofs.YtmjoebnphacadaaGreatDoorW.PrintWords Go.Proofs.YtmjoebnphacadaaGreatDoorW.PrintLast Go.Proofs.YtmjoebnphacadaaGreatDoor.Q
set_option linter.unusedVariables false
set_option linter.unusedSimpArgs false
theorem quoE_at {s : ByteArray} : ∀ (f : Nat) (esc : Bool) (p c E CE : Nat), quoE s f esc p c = some (E, CE) → E < s.size ∧ rn s E = 34 ∧ p ≤ E
  | 0, _, _, _, _, _, h => by simp [quoE] at h
  | f + 1, esc, p, c, E, CE, h => by
    unfold quoE at h
    by_cases hp : p < s.size
    · rw [if_pos hp] at h
      by_cases he : esc = true
      · rw [if_pos he] at h
        have := quoE_at f _ _ _ _ _ h
        exact ⟨this.1, this.2.1, by omega⟩
      · rw [if_neg he] at h
        by_cases h9 : rn s p = 92
        · rw [if_pos h9] at h
          have := quoE_at f _ _ _ _ _ h
          exact ⟨this.1, this.2.1, by omega⟩
        · rw [if_neg h9] at h
          by_cases h3 : rn s p = 34
          · rw [if_pos h3] at h
            cases h
            exact ⟨hp, h3, Nat.le_refl _⟩
          · rw [if_neg h3] at h
            have := quoE_at f _ _ _ _ _ h
            exact ⟨this.1, this.2.1, by omega⟩
    · rw [if_neg hp] at h; simp at h
theorem decode_small (s : ByteArray) (pos : Nat) (h : (Utf8.decode s pos).1 < 128) : (Utf8.decode s pos).2 = 1 ∧ (Utf8.decode s pos).1 = (s.get! pos).toNat := by
  rw [Lib.decode_at] at h ⊢
  have hh := UInt8.toNat_lt (s.get! pos)
  generalize (s.get! pos).toNat = b0 at *
  unfold Lib.decodeN at *
  split at h
  · rename_i hb; simp [hb]
  · exfalso
    repeat' split at h
    all_goals (simp only [] at h; omega)
theorem rn_34 {s : ByteArray} {p : Nat} (hp : p < s.size) (h : rn s p = 34) : wdt s p = 1 ∧ bN s p = 34 := by
  have hd := decode_small s p (by show rn s p < 128; omega)
  refine ⟨hd.1, ?_⟩
  unfold bN
  rw [dif_pos hp]
  have : s.get! p = s[p] := by
    have hz : s.data.size = s.size := rfl
    show s.data[p]! = s.data[p]
    exact getElem!_pos s.data p (by omega)
  rw [← this, ← hd.2]
  exact h
/-- Where a token of kind 8 stands. -/
theorem scanE_quo {s : ByteArray} : ∀ (f p c a E ca CE : Nat), scanE s f p c = .tok 8 a E ca CE → a < s.size ∧ rn s a = 34 ∧ ∃ e, E = e + wdt s e ∧ e < s.size ∧ rn s e = 34 ∧ a + wdt s a ≤ e
  | 0, _, _, _, _, _, _, h => by simp [scanE] at h
  | f + 1, p, c, a, E, ca, CE, h => by
    unfold scanE at h
    by_cases hp : p < s.size
    · rw [if_pos hp] at h
      split at h
      · simp at h
      split at h
      · simp at h
      split at h
      · simp at h
      split at h
      · unfold opR at h
        repeat' split at h
        all_goals simp at h
      split at h
      · rename_i h34
        unfold quoR at h
        split at h
        · rename_i e ce hq
          simp only [TR.tok.injEq] at h
          obtain ⟨_, rfl, rfl, _, _⟩ := h
          have := quoE_at _ _ _ _ _ _ hq
          exact ⟨hp, h34, e, rfl, this.1, this.2.1, this.2.2⟩
        · simp at h
      split at h
      · unfold unqR at h
        simp at h
      split at h
      · exact scanE_quo f _ _ _ _ _ _ h
      · simp at h
    · rw [if_neg hp] at h; simp at h
theorem sc_quo {s : ByteArray} {p c a E ca CE : Nat} (h : sc s p c = .tok 8 a E ca CE) : Quo (s.extract a E) := by
  obtain ⟨h1, h2, e, rfl, h3, h4, h5⟩ := scanE_quo _ _ _ _ _ _ _ h
  obtain ⟨w1, b1⟩ := rn_34 h1 h2
  obtain ⟨w2, b2⟩ := rn_34 h3 h4
  rw [w1] at h5
  rw [w2]
  have hz : (s.extract a (e + 1)).size = e + 1 - a := ext_size (by omega)
  refine ⟨by omega, ?_, ?_⟩
  · unfold bN at b1 ⊢
    rw [dif_pos h1] at b1
    rw [dif_pos (by omega), ByteArray.getElem_extract]
    exact b1
  · unfold bN at b2 ⊢
    rw [dif_pos h3] at b2
    rw [dif_pos (by omega), ByteArray.getElem_extract]
    rw [← b2]
    congr 2
    omega
/-- The six stores of a token. -/
abbrev six (w : World) (g : Nat) (v0 v1 v2 v3 v4 v5 : Value) : World := (((((w.setCell ⟨g, 0, none⟩ v0).setCell ⟨g, 1, none⟩ v1).setCell ⟨g, 2, none⟩ v2).setCell ⟨g, 3, none⟩ v3).setCell ⟨g, 4, none⟩ v4).setCell ⟨g, 5, none⟩ v5
theorem six_at {w : World} {g : Nat} {T : TypeId} {u0 u1 u2 u3 u4 u5 v0 v1 v2 v3 v4 v5 : Value} (h : w.heap[g]? = some (.cells #[u0, u1, u2, u3, u4, u5] T (0, 0))) : (six w g v0 v1 v2 v3 v4 v5).heap[g]? = some (.cells #[v0, v1, v2, v3, v4, v5] T (0, 0)) :=
  heap_set (i := 5) (heap_set (i := 4) (heap_set (i := 3) (heap_set (i := 2) (heap_set (i := 1) (heap_set (i := 0) h v0) v1) v2) v3) v4) v5
theorem six_size {w : World} {g : Nat} {v0 v1 v2 v3 v4 v5 : Value} : (six w g v0 v1 v2 v3 v4 v5).heap.size = w.heap.size := by simp [six]
theorem LexAt.six {w : World} {B o g : Nat} {s : ByteArray} {e : Value} {a p wd ca c : Nat} {v0 v1 v2 v3 v4 v5 : Value} (h : LexAt w B o s e a p wd ca c) (hne : g ≠ B) : LexAt (six w g v0 v1 v2 v3 v4 v5) B o s e a p wd ca c := by
  unfold Lex.six
  iterate 6 refine LexAt.farB hne ?_
  exact h
theorem LexAt.blk {w w' : World} {B o : Nat} {s : ByteArray} {e : Value} {a p wd ca c : Nat} (h : LexAt w B o s e a p wd ca c) (hb : w'.heap[B]? = w.heap[B]?) : LexAt w' B o s e a p wd ca c := by
  have hc : ∀ i, w'.cell? ⟨B, i, none⟩ = w.cell? ⟨B, i, none⟩ := fun i => World.cell?_of_block (a := ⟨B, i, none⟩) hb
  have hf : ∀ i, w'.frozen? ⟨B, i, none⟩ = w.frozen? ⟨B, i, none⟩ := fun i => World.frozen?_of_block (a := ⟨B, i, none⟩) hb
  exact ⟨(hc _).trans h.c0, (hc _).trans h.c1, (hc _).trans h.c2, (hc _).trans h.c3, (hc _).trans h.c4, (hc _).trans h.c5, (hc _).trans h.c6, (hf _).trans h.f1, (hf _).trans h.f2, (hf _).trans h.f3, (hf _).trans h.f4, (hf _).trans h.f5, (hf _).trans h.f6⟩
/-- A matcher that stands behind a pointer. -/
def kMat : Kd S74 := Box.box 74 k74
theorem kMat_new {w : World} {base g : Nat} {x : S74} (hb : base ≤ g) (h : w.heap[g]? = some (.cells #[.int .i64 x.f0, .string x.f1, .string x.f2] 74 (0, 0))) (ok : Nat → Prop) (ho : ok g) :
    kMat.M w base ok x [.pointer (some ⟨g, 0, none⟩)] :=
  ⟨g, _, rfl, ho, hb, h, k74_mkM w base ok x⟩
/-- The parser's matchers so far: in its first cell. -/
def MS (w : World) (base P : Nat) (l : List S74) : Prop :=
  ∃ v, w.cell? ⟨P, 0, none⟩ = some v ∧ w.frozen? ⟨P, 0, none⟩ = false ∧ Kd.R kMat 56 w base (fun k => k ≠ P) v l
theorem MS.kept {w w' : World} {base P : Nat} {l : List S74} (h : MS w base P l) (k : Kept P 1 w w') : MS w' base P l := by
  obtain ⟨v, h1, h2, h3⟩ := h
  exact ⟨v, (k.cell 0 (by omega)).trans h1, (k.froz 0).trans h2, Kd.R_step h3 (fun i ho hlt => k.block i hlt ho)⟩
theorem infoPM : (Tryz.prog.info? 56).map (fun i => (i.zero, i.size, i.bytes)) = some (some (.pointer none), 1, 8) := by kernel_rfl
theorem newMatcher_calls (t : Int) (n v : ByteArray) (w : World) :
    Calls Tryz.prog 45 #[.int .i64 t, .string n, .string v] w fun x w' => ∃ g, x = .returned (.tuple #[.pointer (some ⟨g, 0, none⟩), .nilIface]) ∧ w.heap.size ≤ g ∧ w'.heap[g]? = some (.cells #[.int .i64 t, .string n, .string v] 74 (0, 0)) ∧ Below w.heap.size w w' := by
  go_enter Tryz.func45, Tryz.ntmps45
  go_wp2
  go_ret2
  exact ⟨_, rfl, by omega, Box.new_at (by simp) _, by repeat (first | exact Below.refl _ _ | apply below_alloc)⟩
end Go.Proofs.YtmjoebnphacadaaGreatDoor.Lex
/- parse.parser: parseMatcher (printed by wip/tools/gen_pm.py). -/
namespace Go.Proofs.YtmjoebnphacadaaGreatDoor.Lex
open Go.RowKit Go.Lib Go.Proofs.YtmjoebnphacadaaGreatDoorW.PrintWords Go.Proofs.YtmjoebnphacadaaGreatDoorW.PrintLast Go.Proofs.YtmjoebnphacadaaGreatDoor.Q
set_option linter.unusedVariables false
set_option linter.unusedSimpArgs false
/-- The value behind a name and an operator. -/
noncomputable def stMa3 (s n : ByteArray) (k2 p c : Nat) : Option (S74 × Nat × Nat) :=
  match sc s p c with
  | .tok k a E ca C => if k = 9 ∨ k = 8 then (match unqT k (s.extract a E) with | none => none | some v => some (⟨(k2 : Int) - 4, n, v⟩, E, C)) else none
  | _ => none
/-- The operator behind a name, and the value. -/
noncomputable def stMa2 (s n : ByteArray) (p c : Nat) : Option (S74 × Nat × Nat) :=
  match sc s p c with
  | .tok k a E ca C => if k = 4 ∨ k = 5 ∨ k = 6 ∨ k = 7 then stMa3 s n k E C else none
  | _ => none
/-- A matcher: a name, an operator, a value. -/
noncomputable def stMat (s : ByteArray) (p c : Nat) : Option (S74 × Nat × Nat) :=
  match sc s p c with
  | .tok k a E ca C => if k = 8 ∨ k = 9 then (match unqT k (s.extract a E) with | none => none | some n => stMa2 s n E C) else none
  | _ => none
/-- What parseMatcher has done. -/
def MPost (w0 w : World) (P : Nat) (s : ByteArray) (l : List S74) (R : Option (S74 × Nat × Nat)) (x : Ending) (w' : World) : Prop := Below w0.heap.size w0 w' ∧ match R with
  | none => ∃ f er, x = .returned (.tuple #[f, er]) ∧ IsErr er
  | some u => x = .returned (.tuple #[psV P .emt, .nilIface]) ∧ w'.cell? ⟨P, 1, none⟩ = w.cell? ⟨P, 1, none⟩ ∧ w'.frozen? ⟨P, 1, none⟩ = w.frozen? ⟨P, 1, none⟩ ∧ (∃ wd, LexAt w' P 2 s .nilIface u.2.1 u.2.1 wd u.2.2 u.2.2) ∧ MS w' w0.heap.size P (l ++ [u.1])
section
variable {w : World} {P : Nat} {s : ByteArray} {e : Value} {p wd c : Nat} {ea : Addr}
set_option maxHeartbeats 12800000 in
set_option maxRecDepth 100000 in
theorem st_mat {w0 : World} {l : List S74} (hX : Px w0 w P ea) (h : LexAt w P 2 s .nilIface p p wd c c) (hM : MS w w0.heap.size P l) (hs : s.size ≤ 2147483647) (hp : p ≤ s.size) (hc : c ≤ p) (hl : l.length ≤ 1000000000) :
    Calls Tryz.prog 35 #[.pointer (some ⟨P, 0, none⟩), .pointer (some ⟨P, 2, none⟩)] w (MPost w0 w P s l (stMat s p c)) := by
  have HB := Aside0.mk h.lt
  have hne : w.heap.size ≠ P := by have := HB.out; omega
  have HW := Aside0.mk (show Kept P 2 w (w.alloc (.cells #[.int .i64 0, .string ⟨#[]⟩, .int .i64 0, .int .i64 0, .int .i64 0, .int .i64 0] 88)) from Kept.alloc (Kept.refl P 2 w) h.lt _)
  have HW2 := Aside0.mk (show Kept P 2 w ((w.alloc (.cells #[.int .i64 0, .string ⟨#[]⟩, .int .i64 0, .int .i64 0, .int .i64 0, .int .i64 0] 88)).alloc (.cells #[.int .i64 8, .int .i64 9] 79)) from Kept.alloc HW.out h.lt _)
  have HG0 := Aside0.mk (heap_alloc_new w (.cells #[.int .i64 0, .string ⟨#[]⟩, .int .i64 0, .int .i64 0, .int .i64 0, .int .i64 0] 88))
  have e0 : (w.alloc (.cells #[.int .i64 0, .string ⟨#[]⟩, .int .i64 0, .int .i64 0, .int .i64 0, .int .i64 0] 88)).heap.size = w.heap.size + 1 := by simp
  have C0 := expect2_calls (hX.kept HW2.out) ((h.alloc (.cells #[.int .i64 0, .string ⟨#[]⟩, .int .i64 0, .int .i64 0, .int .i64 0, .int .i64 0] 88)).alloc (.cells #[.int .i64 8, .int .i64 9] 79)) hs hp hc (.pointer (some ⟨P, 0, none⟩)) (w.alloc (.cells #[.int .i64 0, .string ⟨#[]⟩, .int .i64 0, .int .i64 0, .int .i64 0, .int .i64 0] 88)).heap.size 2 2 [8, 9] (kinds2 (heap_alloc_new (w.alloc (.cells #[.int .i64 0, .string ⟨#[]⟩, .int .i64 0, .int .i64 0, .int .i64 0, .int .i64 0] 88)) (.cells #[.int .i64 8, .int .i64 9] 79))) rfl (by omega) (by simp) (by rw [e0]; have := h.lt; omega)
  rw [e0] at C0
  have C := Aside0.mk C0
  have HX := Aside0.mk hX
  have HS := Aside0.mk (And.intro hs (And.intro hp hc))
  have HM := Aside0.mk hM
  have HLN := Aside0.mk hl
  have hmf : ∀ (fn : Fn) (first cap : Array Value) (w : World), (Instr.makeFunc fn first cap).run Tryz.prog w = .ok (.func fn first cap) w := fun _ _ _ _ => rfl
  clear hX h hM hs hp hc hl C0 e0
  go_enter Tryz.func35, Tryz.ntmps35
  go_wp2_with fail
  refine C.out.mono ?_
  clear C
  intro x w1 hO
  have HK1 := Aside0.mk (HW2.out.trans hO.1)
  have hg1 := (hO.1.block w.heap.size (by simp <;> omega) hne).trans ((Below.heap_alloc (w.alloc (.cells #[.int .i64 0, .string ⟨#[]⟩, .int .i64 0, .int .i64 0, .int .i64 0, .int .i64 0] 88)) (.cells #[.int .i64 8, .int .i64 9] 79) w.heap.size (by simp)).trans HG0.out)
  have HG1 := Aside0.mk hg1
  obtain ⟨⟨n0, n1, n2, n3, n4, n5⟩, y0, y1, y2, y3, y4, y5⟩ := cells6 hg1
  obtain ⟨b7, z7⟩ := (HX.out.kept HK1.out).err (g := 4) (by decide)
  have z7n : w.heap.size ≠ 4 := by
    have := HX.out.err (g := 4) (by decide)
    obtain ⟨b, hb⟩ := this
    have := World.block_lt_of_cell? w _ hb
    simp only at this
    omega
  unfold errV at z7
  clear hg1
  cases hV : scanE s (s.size + 1) p c with
  | eof q cq =>
    rw [hV] at hO
    obtain ⟨hk, rfl, hl⟩ := hO
    have HV := Aside0.mk (show stMat s p c = none by unfold stMat; rw [show sc s p c = _ from hV])
    clear hk hl hV
    unfold noTok errV
    go_wp2
    go_quiet (fail)
    go_wp2
    go_ret2
    refine (show MPost w0 w P s l (stMat s p c) _ _ from ?_)
    unfold MPost
    rw [HV.out]
    refine ⟨?_, _, _, rfl, _, _, rfl⟩
    exact pw_below_drewN (HX.out.kept (Kept.six HK1.out (Nat.le_refl _) HB.out)).b _
  | bad =>
    rw [hV] at hO
    obtain ⟨hk, r, rfl, hr, hl⟩ := hO
    obtain ⟨T, cs, rfl, hT⟩ := hr
    have HV := Aside0.mk (show stMat s p c = none by unfold stMat; rw [show sc s p c = _ from hV])
    clear hk hl hV hT
    unfold noTok
    go_wp2
    go_quiet (fail)
    go_wp2
    go_ret2
    refine (show MPost w0 w P s l (stMat s p c) _ _ from ?_)
    unfold MPost
    rw [HV.out]
    refine ⟨?_, _, _, rfl, _, _, rfl⟩
    exact pw_below_drewN (HX.out.kept (Kept.six HK1.out (Nat.le_refl _) HB.out)).b _
  | tok k9 a9 E9 ca9 c9 =>
    rw [hV] at hO
    obtain ⟨hk, r, rfl, hr1, hr2, hl⟩ := hO
    by_cases h89 : k9 = 8 ∨ k9 = 9
    · have hb : ([8, 9] : List Nat).contains k9 = true := by rw [kl2]; exact decide_eq_true h89
      obtain rfl := hr1 hb
      rw [hb] at hl
      obtain ⟨wd1, hl⟩ := hl
      have HL1 := Aside0.mk (show LexAt w1 P 2 s .nilIface E9 E9 wd1 c9 c9 from hl)
      have HEQ := Aside0.mk (show stMat s p c = match unqT k9 (s.extract a9 E9) with | none => none | some n => stMa2 s n E9 c9 by unfold stMat; rw [show sc s p c = _ from hV]; exact if_pos h89)
      have hle := scanE_le _ _ _ _ _ _ _ _ HS.out.2.1 HS.out.2.2 hV
      have HLE := Aside0.mk hle
      have HQ := Aside0.mk (show k9 = 8 → Quo (s.extract a9 E9) from fun e => sc_quo (s := s) (p := p) (c := c) (by rw [← e]; exact hV))
      obtain ⟨va, hva⟩ : ∃ va, s.extract a9 E9 = va := ⟨_, rfl⟩
      have hvs : va.size ≤ 2147483647 := by rw [← hva, ByteArray.size_extract]; have := HS.out.1; omega
      unfold tokV
      rw [hva] at HQ HEQ ⊢
      clear hk hr1 hr2 hl hV hb h89 hle hva
      have HK2 := Aside0.mk (Kept.six (g := w.heap.size) (v0 := .int .i64 (k9 : Int)) (v1 := .string va) (v2 := .int .i64 (a9 : Int)) (v3 := .int .i64 (E9 : Int)) (v4 := .int .i64 (ca9 : Int)) (v5 := .int .i64 (c9 : Int)) HK1.out (Nat.le_refl _) HB.out)
      have T1 := Aside0.mk (tunq_calls k9 (a9 : Int) (E9 : Int) (ca9 : Int) (c9 : Int) (HX.out.kept HK2.out).ux hvs HQ.out)
      have HVS := Aside0.mk hvs
      clear hvs
      go_wp2_with fail
      refine T1.out.mono ?_
      clear T1
      intro x w2 hO
      have hlt6 : w.heap.size < w1.heap.size := (Array.getElem?_eq_some_iff.1 HG1.out).1
      have HK3 := Aside0.mk (HK2.out.trans (Kept.of_below hO.1 (by have := HL1.out.lt; simpa using this)))
      have HG3 := Aside0.mk ((hO.1.block w.heap.size (by simpa using hlt6)).trans (six_at HG1.out))
      have HL3 := Aside0.mk (LexAt.below (LexAt.six (g := w.heap.size) (v0 := .int .i64 (k9 : Int)) (v1 := .string va) (v2 := .int .i64 (a9 : Int)) (v3 := .int .i64 (E9 : Int)) (v4 := .int .i64 (ca9 : Int)) (v5 := .int .i64 (c9 : Int)) HL1.out hne) hO.1 (by have := HL1.out.lt; simpa using this))
      have hz := hO.2
      clear hO n0 n1 n2 n3 n4 n5 y0 y1 y2 y3 y4 y5 z7 HG1 HL1 HK2 hlt6
      cases hU : unqT k9 va with
      | none =>
        rw [hU] at hz
        obtain ⟨o, b, rfl⟩ := hz
        have HV := Aside0.mk (show stMat s p c = none by rw [HEQ.out, hU])
        clear hU
        unfold errV
        go_wp2_with fail
        refine (new_err _ _).mono ?_
        rintro x w4 ⟨rfl, rfl⟩
        unfold errV
        go_wp2
        go_ret2
        refine (show MPost w0 w P s l (stMat s p c) _ _ from ?_)
        unfold MPost
        rw [HV.out]
        exact ⟨below_alloc (HX.out.kept HK3.out).b _, _, _, rfl, _, _, rfl⟩
      | some n =>
        rw [hU] at hz
        obtain rfl := hz
        have HEQ2 := Aside0.mk (show stMat s p c = stMa2 s n E9 c9 by rw [HEQ.out, hU])
        clear hU HEQ
        have hle2 : E9 ≤ s.size ∧ c9 ≤ E9 := by have := HLE.out; omega
        have HW4 := Aside0.mk (show Kept P 2 w (w2.alloc (.cells #[.int .i64 4, .int .i64 5, .int .i64 6, .int .i64 7] 79)) from Kept.alloc HK3.out HB.out _)
        have hgl : w.heap.size < w2.heap.size := (Array.getElem?_eq_some_iff.1 HG3.out).1
        have hg4 := (Below.heap_alloc w2 (.cells #[.int .i64 4, .int .i64 5, .int .i64 6, .int .i64 7] 79) w.heap.size hgl).trans HG3.out
        have C2 := Aside0.mk (expect2_calls (HX.out.kept HW4.out) (HL3.out.alloc (.cells #[.int .i64 4, .int .i64 5, .int .i64 6, .int .i64 7] 79)) HS.out.1 hle2.1 hle2.2 (.pointer (some ⟨P, 0, none⟩)) w2.heap.size 4 4 [4, 5, 6, 7] (kinds4 (heap_alloc_new w2 (.cells #[.int .i64 4, .int .i64 5, .int .i64 6, .int .i64 7] 79))) rfl (by omega) (by simp) (by have := HL3.out.lt; omega))
        have HLE2 := Aside0.mk hle2
        clear HW HW2 HG0 HK1 hle2
        go_wp2_with fail
        refine C2.out.mono ?_
        clear C2
        intro x w4 hO
        have HK5 := Aside0.mk (HW4.out.trans hO.1)
        have hg5 := (hO.1.block w.heap.size (by simp; omega) hne).trans hg4
        have HG5 := Aside0.mk hg5
        obtain ⟨⟨n0, n1, n2, n3, n4, n5⟩, y0, y1, y2, y3, y4, y5⟩ := cells6 hg5
        obtain ⟨b8, z8⟩ := (HX.out.kept HK5.out).err (g := 5) (by decide)
        have z8n : w.heap.size ≠ 5 := by
          obtain ⟨b, hb⟩ := HX.out.err (g := 5) (by decide)
          have := World.block_lt_of_cell? w _ hb
          simp only at this
          omega
        unfold errV at z8
        clear hg5 hg4 hgl
        cases hV : scanE s (s.size + 1) E9 c9 with
        | eof q cq =>
          rw [hV] at hO
          obtain ⟨hk, rfl, hl⟩ := hO
          have HV := Aside0.mk (show stMat s p c = none by rw [HEQ2.out]; unfold stMa2; rw [show sc s E9 c9 = _ from hV])
          clear hk hl hV
          unfold noTok errV
          go_wp2
          go_quiet (fail)
          go_wp2
          go_ret2
          refine (show MPost w0 w P s l (stMat s p c) _ _ from ?_)
          unfold MPost
          rw [HV.out]
          refine ⟨?_, _, _, rfl, _, _, rfl⟩
          exact pw_below_drewN (HX.out.kept (Kept.six HK5.out (Nat.le_refl _) HB.out)).b _
        | bad =>
          rw [hV] at hO
          obtain ⟨hk, r, rfl, hr, hl⟩ := hO
          obtain ⟨T, cs, rfl, hT⟩ := hr
          have HV := Aside0.mk (show stMat s p c = none by rw [HEQ2.out]; unfold stMa2; rw [show sc s E9 c9 = _ from hV])
          clear hk hl hV hT
          unfold noTok
          go_wp2
          go_quiet (fail)
          go_wp2
          go_ret2
          refine (show MPost w0 w P s l (stMat s p c) _ _ from ?_)
          unfold MPost
          rw [HV.out]
          refine ⟨?_, _, _, rfl, _, _, rfl⟩
          exact pw_below_drewN (HX.out.kept (Kept.six HK5.out (Nat.le_refl _) HB.out)).b _
        | tok k8 a8 E8 ca8 c8 =>
          rw [hV] at hO
          obtain ⟨hk, r, rfl, hr1, hr2, hl⟩ := hO
          by_cases h47 : k8 = 4 ∨ k8 = 5 ∨ k8 = 6 ∨ k8 = 7
          · have hb : ([4, 5, 6, 7] : List Nat).contains k8 = true := by simp; exact h47
            obtain rfl := hr1 hb
            rw [hb] at hl
            obtain ⟨wd2, hl⟩ := hl
            have HL5 := Aside0.mk (show LexAt w4 P 2 s .nilIface E8 E8 wd2 c8 c8 from hl)
            have HEQ3 := Aside0.mk (show stMat s p c = stMa3 s n k8 E8 c8 by rw [HEQ2.out]; unfold stMa2; rw [show sc s E9 c9 = _ from hV]; exact if_pos h47)
            have HLE3 := Aside0.mk (scanE_le _ _ _ _ _ _ _ _ HLE2.out.1 HLE2.out.2 hV)
            unfold tokV
            obtain ⟨vb, hvb⟩ : ∃ vb, s.extract a8 E8 = vb := ⟨_, rfl⟩
            rw [hvb]
            clear hk hr1 hr2 hl hV hb hvb
            have hle3 : E8 ≤ s.size ∧ c8 ≤ E8 := by have := HLE3.out; omega
            have HK6 := Aside0.mk (Kept.six (g := w.heap.size) (v0 := .int .i64 (k8 : Int)) (v1 := .string vb) (v2 := .int .i64 (a8 : Int)) (v3 := .int .i64 (E8 : Int)) (v4 := .int .i64 (ca8 : Int)) (v5 := .int .i64 (c8 : Int)) HK5.out (Nat.le_refl _) HB.out)
            have HG6 := Aside0.mk (six_at (v0 := .int .i64 (k8 : Int)) (v1 := .string vb) (v2 := .int .i64 (a8 : Int)) (v3 := .int .i64 (E8 : Int)) (v4 := .int .i64 (ca8 : Int)) (v5 := .int .i64 (c8 : Int)) HG5.out)
            have HL6 := Aside0.mk (LexAt.six (g := w.heap.size) (v0 := .int .i64 (k8 : Int)) (v1 := .string vb) (v2 := .int .i64 (a8 : Int)) (v3 := .int .i64 (E8 : Int)) (v4 := .int .i64 (ca8 : Int)) (v5 := .int .i64 (c8 : Int)) HL5.out hne)
            obtain ⟨W, hW⟩ : ∃ W, six w4 w.heap.size (.int .i64 (k8 : Int)) (.string vb) (.int .i64 (a8 : Int)) (.int .i64 (E8 : Int)) (.int .i64 (ca8 : Int)) (.int .i64 (c8 : Int)) = W := ⟨_, rfl⟩
            have HSZ := Aside0.mk (show W.heap.size = w4.heap.size by rw [← hW]; exact six_size)
            rw [show (((((w4.setCell ⟨w.heap.size, 0, none⟩ (.int .i64 (k8 : Int))).setCell ⟨w.heap.size, 1, none⟩ (.string vb)).setCell ⟨w.heap.size, 2, none⟩ (.int .i64 (a8 : Int))).setCell ⟨w.heap.size, 3, none⟩ (.int .i64 (E8 : Int))).setCell ⟨w.heap.size, 4, none⟩ (.int .i64 (ca8 : Int))).setCell ⟨w.heap.size, 5, none⟩ (.int .i64 (c8 : Int)) = W from hW] at HK6
            rw [hW] at HG6 HL6
            have HW7 := Aside0.mk (show Kept P 2 w (W.alloc (.cells #[.int .i64 9, .int .i64 8] 79)) from Kept.alloc HK6.out HB.out _)
            have hgl : w.heap.size < W.heap.size := (Array.getElem?_eq_some_iff.1 HG6.out).1
            have HG7 := Aside0.mk ((Below.heap_alloc W (.cells #[.int .i64 9, .int .i64 8] 79) w.heap.size hgl).trans HG6.out)
            have C0 := expect2_calls (HX.out.kept HW7.out) (HL6.out.alloc (.cells #[.int .i64 9, .int .i64 8] 79)) HS.out.1 hle3.1 hle3.2 (.pointer (some ⟨P, 0, none⟩)) W.heap.size 2 2 [9, 8] (kinds2 (heap_alloc_new W (.cells #[.int .i64 9, .int .i64 8] 79))) rfl (by omega) (by simp) (by have := HL6.out.lt; omega)
            rw [HSZ.out] at C0
            have C3 := Aside0.mk C0
            have HHW := Aside0.mk hW
            clear C0 hgl hW
            rcases h47 with rfl | rfl | rfl | rfl
            · go_wp2_with fail
              rw [show (((((w4.setCell ⟨w.heap.size, 0, none⟩ (.int .i64 4)).setCell ⟨w.heap.size, 1, none⟩ (.string vb)).setCell ⟨w.heap.size, 2, none⟩ (.int .i64 (a8 : Int))).setCell ⟨w.heap.size, 3, none⟩ (.int .i64 (E8 : Int))).setCell ⟨w.heap.size, 4, none⟩ (.int .i64 (ca8 : Int))).setCell ⟨w.heap.size, 5, none⟩ (.int .i64 (c8 : Int)) = W from HHW.out]
              refine C3.out.mono ?_
              clear C3
              intro x w5 hO
              have HK8 := Aside0.mk (HW7.out.trans hO.1)
              have hg8 := (hO.1.block w.heap.size (by have := (Array.getElem?_eq_some_iff.1 HG7.out).1; exact this) hne).trans HG7.out
              have HG8 := Aside0.mk hg8
              obtain ⟨⟨n0, n1, n2, n3, n4, n5⟩, y0, y1, y2, y3, y4, y5⟩ := cells6 hg8
              obtain ⟨b9, z9⟩ := (HX.out.kept HK8.out).err (g := 6) (by decide)
              have z9n : w.heap.size ≠ 6 := by
                obtain ⟨b, hb⟩ := HX.out.err (g := 6) (by decide)
                have := World.block_lt_of_cell? w _ hb
                simp only at this
                omega
              unfold errV at z9
              clear hg8
              cases hV : scanE s (s.size + 1) E8 c8 with
              | eof q cq =>
                rw [hV] at hO
                obtain ⟨hk, rfl, hl⟩ := hO
                have HV := Aside0.mk (show stMat s p c = none by rw [HEQ3.out]; unfold stMa3; rw [show sc s E8 c8 = _ from hV])
                clear hk hl hV
                unfold noTok errV
                go_wp2
                go_quiet (fail)
                go_wp2
                go_ret2
                refine (show MPost w0 w P s l (stMat s p c) _ _ from ?_)
                unfold MPost
                rw [HV.out]
                refine ⟨?_, _, _, rfl, _, _, rfl⟩
                exact pw_below_drewN (HX.out.kept (Kept.six HK8.out (Nat.le_refl _) HB.out)).b _
              | bad =>
                rw [hV] at hO
                obtain ⟨hk, r, rfl, hr, hl⟩ := hO
                obtain ⟨T, cs, rfl, hT⟩ := hr
                have HV := Aside0.mk (show stMat s p c = none by rw [HEQ3.out]; unfold stMa3; rw [show sc s E8 c8 = _ from hV])
                clear hk hl hV hT
                unfold noTok
                go_wp2
                go_quiet (fail)
                go_wp2
                go_ret2
                refine (show MPost w0 w P s l (stMat s p c) _ _ from ?_)
                unfold MPost
                rw [HV.out]
                refine ⟨?_, _, _, rfl, _, _, rfl⟩
                exact pw_below_drewN (HX.out.kept (Kept.six HK8.out (Nat.le_refl _) HB.out)).b _
              | tok k7 a7 E7 ca7 c7 =>
                rw [hV] at hO
                obtain ⟨hk, r, rfl, hr1, hr2, hl⟩ := hO
                by_cases h98 : k7 = 9 ∨ k7 = 8
                · have hb : ([9, 8] : List Nat).contains k7 = true := by rw [kl2]; exact decide_eq_true h98
                  obtain rfl := hr1 hb
                  rw [hb] at hl
                  obtain ⟨wd3, hl⟩ := hl
                  have HL8 := Aside0.mk (show LexAt w5 P 2 s .nilIface E7 E7 wd3 c7 c7 from hl)
                  have HEQ4 := Aside0.mk (show stMat s p c = match unqT k7 (s.extract a7 E7) with | none => none | some v => some (⟨((4 : Nat) : Int) - 4, n, v⟩, E7, c7) by rw [HEQ3.out]; unfold stMa3; rw [show sc s E8 c8 = _ from hV]; exact if_pos h98)
                  have HQ := Aside0.mk (show k7 = 8 → Quo (s.extract a7 E7) from fun e => sc_quo (s := s) (p := E8) (c := c8) (by rw [← e]; exact hV))
                  obtain ⟨vc, hvc⟩ : ∃ vc, s.extract a7 E7 = vc := ⟨_, rfl⟩
                  have hvs : vc.size ≤ 2147483647 := by rw [← hvc, ByteArray.size_extract]; have := HS.out.1; omega
                  unfold tokV
                  rw [hvc] at HQ HEQ4 ⊢
                  clear hk hr1 hr2 hl hV hb h98 hvc
                  have HK9 := Aside0.mk (Kept.six (g := w.heap.size) (v0 := .int .i64 (k7 : Int)) (v1 := .string vc) (v2 := .int .i64 (a7 : Int)) (v3 := .int .i64 (E7 : Int)) (v4 := .int .i64 (ca7 : Int)) (v5 := .int .i64 (c7 : Int)) HK8.out (Nat.le_refl _) HB.out)
                  have T1 := Aside0.mk (tunq_calls k7 (a7 : Int) (E7 : Int) (ca7 : Int) (c7 : Int) (HX.out.kept HK9.out).ux hvs HQ.out)
                  clear hvs
                  go_wp2_with fail
                  refine T1.out.mono ?_
                  clear T1
                  intro x w6 hO
                  have HK10 := Aside0.mk (HK9.out.trans (Kept.of_below hO.1 (by have := HL8.out.lt; simpa using this)))
                  have HL10 := Aside0.mk (LexAt.below (LexAt.six (g := w.heap.size) (v0 := .int .i64 (k7 : Int)) (v1 := .string vc) (v2 := .int .i64 (a7 : Int)) (v3 := .int .i64 (E7 : Int)) (v4 := .int .i64 (ca7 : Int)) (v5 := .int .i64 (c7 : Int)) HL8.out hne) hO.1 (by have := HL8.out.lt; simpa using this))
                  have hz := hO.2
                  clear hO n0 n1 n2 n3 n4 n5 y0 y1 y2 y3 y4 y5 z9 HG8 HL8 HK9
                  cases hU : unqT k7 vc with
                  | none =>
                    rw [hU] at hz
                    obtain ⟨o, b, rfl⟩ := hz
                    have HV := Aside0.mk (show stMat s p c = none by rw [HEQ4.out, hU])
                    clear hU
                    unfold errV
                    go_wp2_with fail
                    refine (new_err _ _).mono ?_
                    rintro x w4 ⟨rfl, rfl⟩
                    unfold errV
                    go_wp2
                    go_ret2
                    refine (show MPost w0 w P s l (stMat s p c) _ _ from ?_)
                    unfold MPost
                    rw [HV.out]
                    exact ⟨below_alloc (HX.out.kept HK10.out).b _, _, _, rfl, _, _, rfl⟩
                  | some v =>
                    rw [hU] at hz
                    obtain rfl := hz
                    have HV := Aside0.mk (show stMat s p c = some (⟨((4 : Nat) : Int) - 4, n, v⟩, E7, c7) by rw [HEQ4.out, hU])
                    clear hU HEQ4
                    go_wp2_with fail
                    refine (newMatcher_calls 0 n v w6).mono ?_
                    rintro x w7 ⟨gm, rfl, hgm, hbm, hB⟩
                    have hP6 := HL10.out.lt
                    have HK11 := Aside0.mk (HK10.out.trans (Kept.of_below hB hP6))
                    have HL11 := Aside0.mk (HL10.out.below hB hP6)
                    obtain ⟨u, hu6, hf6, hR6⟩ := HM.out.kept HK10.out.w1
                    have hu7 := (hB.cell (p := ⟨P, 0, none⟩) hP6).trans hu6
                    have hf7 := (hB.frozen (p := ⟨P, 0, none⟩) hP6).trans hf6
                    have hgo : some gm ≠ u.ownBlock := fun e => by have := Kd.R_lt hR6 gm e.symm; omega
                    have hgp : gm ≠ P := by omega
                    have HR7 := Aside0.mk (Kd.R_below hR6 hB)
                    have HNM := Aside0.mk (kMat_new (base := w0.heap.size) (x := ⟨((4 : Nat) : Int) - 4, n, v⟩) (by have := (HX.out.kept HK10.out).b.size; omega) hbm (fun k => k = gm) rfl)
                    have HGG := Aside0.mk (And.intro hgo (And.intro hgp hP6))
                    have HB7 := Aside0.mk (HX.out.kept HK11.out).b
                    have hs7 := HB7.out.size
                    have hPg : P < w7.heap.size := HL11.out.lt
                    clear hR6 hu6 hf6 hbm hgo
                    go_wp2_with ((with_reducible refine gate_builtin (b := .append) (xs := #[.tmp 83, .tmp 85]) rfl ?_); at_builtin; refine Kd.R_append kMat (w0 := w0) w0.heap.size rfl (.tmp 83) (.tmp 85) 35 56 (.pointer none) 8 rfl Tryz.underlying35 infoPM rfl (by decide) (by omega) u l (⟨((4 : Nat) : Int) - 4, n, v⟩ : S74) [.pointer (some ⟨gm, 0, none⟩)] (fun k => k ≠ P) (fun k => k = gm) rfl (by first | (go_simp; done) | (go_simp; rfl)) HNM.out (fun k hk => by subst hk; exact ⟨HGG.out.2.1, HGG.out.1⟩) (fun k hk => by omega) HR7.out HB7.out hs7 (by have := HLN.out; omega) ?_; intro v1 w8 hO8 hB8 hg8 hat8; clear hat8; obtain ⟨A1, c1, e1⟩ := Kd.R_slice hO8; subst e1; have hP8 := hg8.block P hPg (fun e => (HR7.out.1 P e.symm) rfl); have hc8 := (World.cell?_of_block (a := ⟨P, 0, none⟩) hP8).trans hu7; have hf8 := (World.frozen?_of_block (a := ⟨P, 0, none⟩) hP8).trans hf7; have H8 := Aside0.mk (And.intro hO8 (And.intro hB8 (And.intro hP8 hc8))); have HF8 := Aside0.mk hf8; clear hO8 hB8 hg8 hP8 hu7 hf7)
                    go_ret2
                    refine (show MPost w0 w P s l (stMat s p c) _ _ from ?_)
                    unfold MPost
                    rw [HV.out]
                    obtain ⟨hO8, hB8, hP8, hc8⟩ := H8.out
                    have hPb := HX.out.h
                    refine ⟨⟨hB8.os, hB8.tape, hB8.output, by simpa using hB8.size, fun k hk => (Below.heap_setCell w8 _ _ k (by show k ≠ P; omega)).trans (hB8.block k hk)⟩, rfl, ?_, ?_, ⟨wd3, ?_⟩, ⟨_, cs_same hc8, ?_, ?_⟩⟩
                    · exact (cs_other (ne_at (by omega))).trans ((World.cell?_of_block (a := ⟨P, 1, none⟩) hP8).trans (HK11.out.cell 1 (by omega)))
                    · rw [World.frozen?_setCell]
                      exact (World.frozen?_of_block (a := ⟨P, 1, none⟩) hP8).trans (HK11.out.froz 1)
                    · exact (HL11.out.blk hP8).setLow (i := 0) (by omega)
                    · rw [World.frozen?_setCell]; exact HF8.out
                    · rw [List.length_append] at hO8
                      exact Kd.R_step hO8 (fun k ho _ => Below.heap_setCell w8 _ _ k ho)
                · have hb : ([9, 8] : List Nat).contains k7 = false := by rw [kl2]; exact decide_eq_false h98
                  obtain ⟨ne, rfl, _⟩ := hr2 hb
                  have HV := Aside0.mk (show stMat s p c = none by rw [HEQ3.out]; unfold stMa3; rw [show sc s E8 c8 = _ from hV]; exact if_neg h98)
                  clear hk hr1 hr2 hl hV hb h98
                  unfold tokV errV
                  go_wp2
                  go_quiet (fail)
                  go_wp2
                  go_ret2
                  refine (show MPost w0 w P s l (stMat s p c) _ _ from ?_)
                  unfold MPost
                  rw [HV.out]
                  refine ⟨?_, _, _, rfl, _, _, rfl⟩
                  exact pw_below_drewN (HX.out.kept (Kept.six HK8.out (Nat.le_refl _) HB.out)).b _
            · go_wp2_with fail
              rw [show (((((w4.setCell ⟨w.heap.size, 0, none⟩ (.int .i64 5)).setCell ⟨w.heap.size, 1, none⟩ (.string vb)).setCell ⟨w.heap.size, 2, none⟩ (.int .i64 (a8 : Int))).setCell ⟨w.heap.size, 3, none⟩ (.int .i64 (E8 : Int))).setCell ⟨w.heap.size, 4, none⟩ (.int .i64 (ca8 : Int))).setCell ⟨w.heap.size, 5, none⟩ (.int .i64 (c8 : Int)) = W from HHW.out]
              refine C3.out.mono ?_
              clear C3
              intro x w5 hO
              have HK8 := Aside0.mk (HW7.out.trans hO.1)
              have hg8 := (hO.1.block w.heap.size (by have := (Array.getElem?_eq_some_iff.1 HG7.out).1; exact this) hne).trans HG7.out
              have HG8 := Aside0.mk hg8
              obtain ⟨⟨n0, n1, n2, n3, n4, n5⟩, y0, y1, y2, y3, y4, y5⟩ := cells6 hg8
              obtain ⟨b9, z9⟩ := (HX.out.kept HK8.out).err (g := 6) (by decide)
              have z9n : w.heap.size ≠ 6 := by
                obtain ⟨b, hb⟩ := HX.out.err (g := 6) (by decide)
                have := World.block_lt_of_cell? w _ hb
                simp only at this
                omega
              unfold errV at z9
              clear hg8
              cases hV : scanE s (s.size + 1) E8 c8 with
              | eof q cq =>
                rw [hV] at hO
                obtain ⟨hk, rfl, hl⟩ := hO
                have HV := Aside0.mk (show stMat s p c = none by rw [HEQ3.out]; unfold stMa3; rw [show sc s E8 c8 = _ from hV])
                clear hk hl hV
                unfold noTok errV
                go_wp2
                go_quiet (fail)
                go_wp2
                go_ret2
                refine (show MPost w0 w P s l (stMat s p c) _ _ from ?_)
                unfold MPost
                rw [HV.out]
                refine ⟨?_, _, _, rfl, _, _, rfl⟩
                exact pw_below_drewN (HX.out.kept (Kept.six HK8.out (Nat.le_refl _) HB.out)).b _
              | bad =>
                rw [hV] at hO
                obtain ⟨hk, r, rfl, hr, hl⟩ := hO
                obtain ⟨T, cs, rfl, hT⟩ := hr
                have HV := Aside0.mk (show stMat s p c = none by rw [HEQ3.out]; unfold stMa3; rw [show sc s E8 c8 = _ from hV])
                clear hk hl hV hT
                unfold noTok
                go_wp2
                go_quiet (fail)
                go_wp2
                go_ret2
                refine (show MPost w0 w P s l (stMat s p c) _ _ from ?_)
                unfold MPost
                rw [HV.out]
                refine ⟨?_, _, _, rfl, _, _, rfl⟩
                exact pw_below_drewN (HX.out.kept (Kept.six HK8.out (Nat.le_refl _) HB.out)).b _
              | tok k7 a7 E7 ca7 c7 =>
                rw [hV] at hO
                obtain ⟨hk, r, rfl, hr1, hr2, hl⟩ := hO
                by_cases h98 : k7 = 9 ∨ k7 = 8
                · have hb : ([9, 8] : List Nat).contains k7 = true := by rw [kl2]; exact decide_eq_true h98
                  obtain rfl := hr1 hb
                  rw [hb] at hl
                  obtain ⟨wd3, hl⟩ := hl
                  have HL8 := Aside0.mk (show LexAt w5 P 2 s .nilIface E7 E7 wd3 c7 c7 from hl)
                  have HEQ4 := Aside0.mk (show stMat s p c = match unqT k7 (s.extract a7 E7) with | none => none | some v => some (⟨((5 : Nat) : Int) - 4, n, v⟩, E7, c7) by rw [HEQ3.out]; unfold stMa3; rw [show sc s E8 c8 = _ from hV]; exact if_pos h98)
                  have HQ := Aside0.mk (show k7 = 8 → Quo (s.extract a7 E7) from fun e => sc_quo (s := s) (p := E8) (c := c8) (by rw [← e]; exact hV))
                  obtain ⟨vc, hvc⟩ : ∃ vc, s.extract a7 E7 = vc := ⟨_, rfl⟩
                  have hvs : vc.size ≤ 2147483647 := by rw [← hvc, ByteArray.size_extract]; have := HS.out.1; omega
                  unfold tokV
                  rw [hvc] at HQ HEQ4 ⊢
                  clear hk hr1 hr2 hl hV hb h98 hvc
                  have HK9 := Aside0.mk (Kept.six (g := w.heap.size) (v0 := .int .i64 (k7 : Int)) (v1 := .string vc) (v2 := .int .i64 (a7 : Int)) (v3 := .int .i64 (E7 : Int)) (v4 := .int .i64 (ca7 : Int)) (v5 := .int .i64 (c7 : Int)) HK8.out (Nat.le_refl _) HB.out)
                  have T1 := Aside0.mk (tunq_calls k7 (a7 : Int) (E7 : Int) (ca7 : Int) (c7 : Int) (HX.out.kept HK9.out).ux hvs HQ.out)
                  clear hvs
                  go_wp2_with fail
                  refine T1.out.mono ?_
                  clear T1
                  intro x w6 hO
                  have HK10 := Aside0.mk (HK9.out.trans (Kept.of_below hO.1 (by have := HL8.out.lt; simpa using this)))
                  have HL10 := Aside0.mk (LexAt.below (LexAt.six (g := w.heap.size) (v0 := .int .i64 (k7 : Int)) (v1 := .string vc) (v2 := .int .i64 (a7 : Int)) (v3 := .int .i64 (E7 : Int)) (v4 := .int .i64 (ca7 : Int)) (v5 := .int .i64 (c7 : Int)) HL8.out hne) hO.1 (by have := HL8.out.lt; simpa using this))
                  have hz := hO.2
                  clear hO n0 n1 n2 n3 n4 n5 y0 y1 y2 y3 y4 y5 z9 HG8 HL8 HK9
                  cases hU : unqT k7 vc with
                  | none =>
                    rw [hU] at hz
                    obtain ⟨o, b, rfl⟩ := hz
                    have HV := Aside0.mk (show stMat s p c = none by rw [HEQ4.out, hU])
                    clear hU
                    unfold errV
                    go_wp2_with fail
                    refine (new_err _ _).mono ?_
                    rintro x w4 ⟨rfl, rfl⟩
                    unfold errV
                    go_wp2
                    go_ret2
                    refine (show MPost w0 w P s l (stMat s p c) _ _ from ?_)
                    unfold MPost
                    rw [HV.out]
                    exact ⟨below_alloc (HX.out.kept HK10.out).b _, _, _, rfl, _, _, rfl⟩
                  | some v =>
                    rw [hU] at hz
                    obtain rfl := hz
                    have HV := Aside0.mk (show stMat s p c = some (⟨((5 : Nat) : Int) - 4, n, v⟩, E7, c7) by rw [HEQ4.out, hU])
                    clear hU HEQ4
                    go_wp2_with fail
                    refine (newMatcher_calls 1 n v w6).mono ?_
                    rintro x w7 ⟨gm, rfl, hgm, hbm, hB⟩
                    have hP6 := HL10.out.lt
                    have HK11 := Aside0.mk (HK10.out.trans (Kept.of_below hB hP6))
                    have HL11 := Aside0.mk (HL10.out.below hB hP6)
                    obtain ⟨u, hu6, hf6, hR6⟩ := HM.out.kept HK10.out.w1
                    have hu7 := (hB.cell (p := ⟨P, 0, none⟩) hP6).trans hu6
                    have hf7 := (hB.frozen (p := ⟨P, 0, none⟩) hP6).trans hf6
                    have hgo : some gm ≠ u.ownBlock := fun e => by have := Kd.R_lt hR6 gm e.symm; omega
                    have hgp : gm ≠ P := by omega
                    have HR7 := Aside0.mk (Kd.R_below hR6 hB)
                    have HNM := Aside0.mk (kMat_new (base := w0.heap.size) (x := ⟨((5 : Nat) : Int) - 4, n, v⟩) (by have := (HX.out.kept HK10.out).b.size; omega) hbm (fun k => k = gm) rfl)
                    have HGG := Aside0.mk (And.intro hgo (And.intro hgp hP6))
                    have HB7 := Aside0.mk (HX.out.kept HK11.out).b
                    have hs7 := HB7.out.size
                    have hPg : P < w7.heap.size := HL11.out.lt
                    clear hR6 hu6 hf6 hbm hgo
                    go_wp2_with ((with_reducible refine gate_builtin (b := .append) (xs := #[.tmp 83, .tmp 85]) rfl ?_); at_builtin; refine Kd.R_append kMat (w0 := w0) w0.heap.size rfl (.tmp 83) (.tmp 85) 35 56 (.pointer none) 8 rfl Tryz.underlying35 infoPM rfl (by decide) (by omega) u l (⟨((5 : Nat) : Int) - 4, n, v⟩ : S74) [.pointer (some ⟨gm, 0, none⟩)] (fun k => k ≠ P) (fun k => k = gm) rfl (by first | (go_simp; done) | (go_simp; rfl)) HNM.out (fun k hk => by subst hk; exact ⟨HGG.out.2.1, HGG.out.1⟩) (fun k hk => by omega) HR7.out HB7.out hs7 (by have := HLN.out; omega) ?_; intro v1 w8 hO8 hB8 hg8 hat8; clear hat8; obtain ⟨A1, c1, e1⟩ := Kd.R_slice hO8; subst e1; have hP8 := hg8.block P hPg (fun e => (HR7.out.1 P e.symm) rfl); have hc8 := (World.cell?_of_block (a := ⟨P, 0, none⟩) hP8).trans hu7; have hf8 := (World.frozen?_of_block (a := ⟨P, 0, none⟩) hP8).trans hf7; have H8 := Aside0.mk (And.intro hO8 (And.intro hB8 (And.intro hP8 hc8))); have HF8 := Aside0.mk hf8; clear hO8 hB8 hg8 hP8 hu7 hf7)
                    go_ret2
                    refine (show MPost w0 w P s l (stMat s p c) _ _ from ?_)
                    unfold MPost
                    rw [HV.out]
                    obtain ⟨hO8, hB8, hP8, hc8⟩ := H8.out
                    have hPb := HX.out.h
                    refine ⟨⟨hB8.os, hB8.tape, hB8.output, by simpa using hB8.size, fun k hk => (Below.heap_setCell w8 _ _ k (by show k ≠ P; omega)).trans (hB8.block k hk)⟩, rfl, ?_, ?_, ⟨wd3, ?_⟩, ⟨_, cs_same hc8, ?_, ?_⟩⟩
                    · exact (cs_other (ne_at (by omega))).trans ((World.cell?_of_block (a := ⟨P, 1, none⟩) hP8).trans (HK11.out.cell 1 (by omega)))
                    · rw [World.frozen?_setCell]
                      exact (World.frozen?_of_block (a := ⟨P, 1, none⟩) hP8).trans (HK11.out.froz 1)
                    · exact (HL11.out.blk hP8).setLow (i := 0) (by omega)
                    · rw [World.frozen?_setCell]; exact HF8.out
                    · rw [List.length_append] at hO8
                      exact Kd.R_step hO8 (fun k ho _ => Below.heap_setCell w8 _ _ k ho)
                · have hb : ([9, 8] : List Nat).contains k7 = false := by rw [kl2]; exact decide_eq_false h98
                  obtain ⟨ne, rfl, _⟩ := hr2 hb
                  have HV := Aside0.mk (show stMat s p c = none by rw [HEQ3.out]; unfold stMa3; rw [show sc s E8 c8 = _ from hV]; exact if_neg h98)
                  clear hk hr1 hr2 hl hV hb h98
                  unfold tokV errV
                  go_wp2
                  go_quiet (fail)
                  go_wp2
                  go_ret2
                  refine (show MPost w0 w P s l (stMat s p c) _ _ from ?_)
                  unfold MPost
                  rw [HV.out]
                  refine ⟨?_, _, _, rfl, _, _, rfl⟩
                  exact pw_below_drewN (HX.out.kept (Kept.six HK8.out (Nat.le_refl _) HB.out)).b _
            · go_wp2_with fail
              rw [show (((((w4.setCell ⟨w.heap.size, 0, none⟩ (.int .i64 6)).setCell ⟨w.heap.size, 1, none⟩ (.string vb)).setCell ⟨w.heap.size, 2, none⟩ (.int .i64 (a8 : Int))).setCell ⟨w.heap.size, 3, none⟩ (.int .i64 (E8 : Int))).setCell ⟨w.heap.size, 4, none⟩ (.int .i64 (ca8 : Int))).setCell ⟨w.heap.size, 5, none⟩ (.int .i64 (c8 : Int)) = W from HHW.out]
              refine C3.out.mono ?_
              clear C3
              intro x w5 hO
              have HK8 := Aside0.mk (HW7.out.trans hO.1)
              have hg8 := (hO.1.block w.heap.size (by have := (Array.getElem?_eq_some_iff.1 HG7.out).1; exact this) hne).trans HG7.out
              have HG8 := Aside0.mk hg8
              obtain ⟨⟨n0, n1, n2, n3, n4, n5⟩, y0, y1, y2, y3, y4, y5⟩ := cells6 hg8
              obtain ⟨b9, z9⟩ := (HX.out.kept HK8.out).err (g := 6) (by decide)
              have z9n : w.heap.size ≠ 6 := by
                obtain ⟨b, hb⟩ := HX.out.err (g := 6) (by decide)
                have := World.block_lt_of_cell? w _ hb
                simp only at this
                omega
              unfold errV at z9
              clear hg8
              cases hV : scanE s (s.size + 1) E8 c8 with
              | eof q cq =>
                rw [hV] at hO
                obtain ⟨hk, rfl, hl⟩ := hO
                have HV := Aside0.mk (show stMat s p c = none by rw [HEQ3.out]; unfold stMa3; rw [show sc s E8 c8 = _ from hV])
                clear hk hl hV
                unfold noTok errV
                go_wp2
                go_quiet (fail)
                go_wp2
                go_ret2
                refine (show MPost w0 w P s l (stMat s p c) _ _ from ?_)
                unfold MPost
                rw [HV.out]
                refine ⟨?_, _, _, rfl, _, _, rfl⟩
                exact pw_below_drewN (HX.out.kept (Kept.six HK8.out (Nat.le_refl _) HB.out)).b _
              | bad =>
                rw [hV] at hO
                obtain ⟨hk, r, rfl, hr, hl⟩ := hO
                obtain ⟨T, cs, rfl, hT⟩ := hr
                have HV := Aside0.mk (show stMat s p c = none by rw [HEQ3.out]; unfold stMa3; rw [show sc s E8 c8 = _ from hV])
                clear hk hl hV hT
                unfold noTok
                go_wp2
                go_quiet (fail)
                go_wp2
                go_ret2
                refine (show MPost w0 w P s l (stMat s p c) _ _ from ?_)
                unfold MPost
                rw [HV.out]
                refine ⟨?_, _, _, rfl, _, _, rfl⟩
                exact pw_below_drewN (HX.out.kept (Kept.six HK8.out (Nat.le_refl _) HB.out)).b _
              | tok k7 a7 E7 ca7 c7 =>
                rw [hV] at hO
                obtain ⟨hk, r, rfl, hr1, hr2, hl⟩ := hO
                by_cases h98 : k7 = 9 ∨ k7 = 8
                · have hb : ([9, 8] : List Nat).contains k7 = true := by rw [kl2]; exact decide_eq_true h98
                  obtain rfl := hr1 hb
                  rw [hb] at hl
                  obtain ⟨wd3, hl⟩ := hl
                  have HL8 := Aside0.mk (show LexAt w5 P 2 s .nilIface E7 E7 wd3 c7 c7 from hl)
                  have HEQ4 := Aside0.mk (show stMat s p c = match unqT k7 (s.extract a7 E7) with | none => none | some v => some (⟨((6 : Nat) : Int) - 4, n, v⟩, E7, c7) by rw [HEQ3.out]; unfold stMa3; rw [show sc s E8 c8 = _ from hV]; exact if_pos h98)
                  have HQ := Aside0.mk (show k7 = 8 → Quo (s.extract a7 E7) from fun e => sc_quo (s := s) (p := E8) (c := c8) (by rw [← e]; exact hV))
                  obtain ⟨vc, hvc⟩ : ∃ vc, s.extract a7 E7 = vc := ⟨_, rfl⟩
                  have hvs : vc.size ≤ 2147483647 := by rw [← hvc, ByteArray.size_extract]; have := HS.out.1; omega
                  unfold tokV
                  rw [hvc] at HQ HEQ4 ⊢
                  clear hk hr1 hr2 hl hV hb h98 hvc
                  have HK9 := Aside0.mk (Kept.six (g := w.heap.size) (v0 := .int .i64 (k7 : Int)) (v1 := .string vc) (v2 := .int .i64 (a7 : Int)) (v3 := .int .i64 (E7 : Int)) (v4 := .int .i64 (ca7 : Int)) (v5 := .int .i64 (c7 : Int)) HK8.out (Nat.le_refl _) HB.out)
                  have T1 := Aside0.mk (tunq_calls k7 (a7 : Int) (E7 : Int) (ca7 : Int) (c7 : Int) (HX.out.kept HK9.out).ux hvs HQ.out)
                  clear hvs
                  go_wp2_with fail
                  refine T1.out.mono ?_
                  clear T1
                  intro x w6 hO
                  have HK10 := Aside0.mk (HK9.out.trans (Kept.of_below hO.1 (by have := HL8.out.lt; simpa using this)))
                  have HL10 := Aside0.mk (LexAt.below (LexAt.six (g := w.heap.size) (v0 := .int .i64 (k7 : Int)) (v1 := .string vc) (v2 := .int .i64 (a7 : Int)) (v3 := .int .i64 (E7 : Int)) (v4 := .int .i64 (ca7 : Int)) (v5 := .int .i64 (c7 : Int)) HL8.out hne) hO.1 (by have := HL8.out.lt; simpa using this))
                  have hz := hO.2
                  clear hO n0 n1 n2 n3 n4 n5 y0 y1 y2 y3 y4 y5 z9 HG8 HL8 HK9
                  cases hU : unqT k7 vc with
                  | none =>
                    rw [hU] at hz
                    obtain ⟨o, b, rfl⟩ := hz
                    have HV := Aside0.mk (show stMat s p c = none by rw [HEQ4.out, hU])
                    clear hU
                    unfold errV
                    go_wp2_with fail
                    refine (new_err _ _).mono ?_
                    rintro x w4 ⟨rfl, rfl⟩
                    unfold errV
                    go_wp2
                    go_ret2
                    refine (show MPost w0 w P s l (stMat s p c) _ _ from ?_)
                    unfold MPost
                    rw [HV.out]
                    exact ⟨below_alloc (HX.out.kept HK10.out).b _, _, _, rfl, _, _, rfl⟩
                  | some v =>
                    rw [hU] at hz
                    obtain rfl := hz
                    have HV := Aside0.mk (show stMat s p c = some (⟨((6 : Nat) : Int) - 4, n, v⟩, E7, c7) by rw [HEQ4.out, hU])
                    clear hU HEQ4
                    go_wp2_with fail
                    refine (newMatcher_calls 2 n v w6).mono ?_
                    rintro x w7 ⟨gm, rfl, hgm, hbm, hB⟩
                    have hP6 := HL10.out.lt
                    have HK11 := Aside0.mk (HK10.out.trans (Kept.of_below hB hP6))
                    have HL11 := Aside0.mk (HL10.out.below hB hP6)
                    obtain ⟨u, hu6, hf6, hR6⟩ := HM.out.kept HK10.out.w1
                    have hu7 := (hB.cell (p := ⟨P, 0, none⟩) hP6).trans hu6
                    have hf7 := (hB.frozen (p := ⟨P, 0, none⟩) hP6).trans hf6
                    have hgo : some gm ≠ u.ownBlock := fun e => by have := Kd.R_lt hR6 gm e.symm; omega
                    have hgp : gm ≠ P := by omega
                    have HR7 := Aside0.mk (Kd.R_below hR6 hB)
                    have HNM := Aside0.mk (kMat_new (base := w0.heap.size) (x := ⟨((6 : Nat) : Int) - 4, n, v⟩) (by have := (HX.out.kept HK10.out).b.size; omega) hbm (fun k => k = gm) rfl)
                    have HGG := Aside0.mk (And.intro hgo (And.intro hgp hP6))
                    have HB7 := Aside0.mk (HX.out.kept HK11.out).b
                    have hs7 := HB7.out.size
                    have hPg : P < w7.heap.size := HL11.out.lt
                    clear hR6 hu6 hf6 hbm hgo
                    go_wp2_with ((with_reducible refine gate_builtin (b := .append) (xs := #[.tmp 83, .tmp 85]) rfl ?_); at_builtin; refine Kd.R_append kMat (w0 := w0) w0.heap.size rfl (.tmp 83) (.tmp 85) 35 56 (.pointer none) 8 rfl Tryz.underlying35 infoPM rfl (by decide) (by omega) u l (⟨((6 : Nat) : Int) - 4, n, v⟩ : S74) [.pointer (some ⟨gm, 0, none⟩)] (fun k => k ≠ P) (fun k => k = gm) rfl (by first | (go_simp; done) | (go_simp; rfl)) HNM.out (fun k hk => by subst hk; exact ⟨HGG.out.2.1, HGG.out.1⟩) (fun k hk => by omega) HR7.out HB7.out hs7 (by have := HLN.out; omega) ?_; intro v1 w8 hO8 hB8 hg8 hat8; clear hat8; obtain ⟨A1, c1, e1⟩ := Kd.R_slice hO8; subst e1; have hP8 := hg8.block P hPg (fun e => (HR7.out.1 P e.symm) rfl); have hc8 := (World.cell?_of_block (a := ⟨P, 0, none⟩) hP8).trans hu7; have hf8 := (World.frozen?_of_block (a := ⟨P, 0, none⟩) hP8).trans hf7; have H8 := Aside0.mk (And.intro hO8 (And.intro hB8 (And.intro hP8 hc8))); have HF8 := Aside0.mk hf8; clear hO8 hB8 hg8 hP8 hu7 hf7)
                    go_ret2
                    refine (show MPost w0 w P s l (stMat s p c) _ _ from ?_)
                    unfold MPost
                    rw [HV.out]
                    obtain ⟨hO8, hB8, hP8, hc8⟩ := H8.out
                    have hPb := HX.out.h
                    refine ⟨⟨hB8.os, hB8.tape, hB8.output, by simpa using hB8.size, fun k hk => (Below.heap_setCell w8 _ _ k (by show k ≠ P; omega)).trans (hB8.block k hk)⟩, rfl, ?_, ?_, ⟨wd3, ?_⟩, ⟨_, cs_same hc8, ?_, ?_⟩⟩
                    · exact (cs_other (ne_at (by omega))).trans ((World.cell?_of_block (a := ⟨P, 1, none⟩) hP8).trans (HK11.out.cell 1 (by omega)))
                    · rw [World.frozen?_setCell]
                      exact (World.frozen?_of_block (a := ⟨P, 1, none⟩) hP8).trans (HK11.out.froz 1)
                    · exact (HL11.out.blk hP8).setLow (i := 0) (by omega)
                    · rw [World.frozen?_setCell]; exact HF8.out
                    · rw [List.length_append] at hO8
                      exact Kd.R_step hO8 (fun k ho _ => Below.heap_setCell w8 _ _ k ho)
                · have hb : ([9, 8] : List Nat).contains k7 = false := by rw [kl2]; exact decide_eq_false h98
                  obtain ⟨ne, rfl, _⟩ := hr2 hb
                  have HV := Aside0.mk (show stMat s p c = none by rw [HEQ3.out]; unfold stMa3; rw [show sc s E8 c8 = _ from hV]; exact if_neg h98)
                  clear hk hr1 hr2 hl hV hb h98
                  unfold tokV errV
                  go_wp2
                  go_quiet (fail)
                  go_wp2
                  go_ret2
                  refine (show MPost w0 w P s l (stMat s p c) _ _ from ?_)
                  unfold MPost
                  rw [HV.out]
                  refine ⟨?_, _, _, rfl, _, _, rfl⟩
                  exact pw_below_drewN (HX.out.kept (Kept.six HK8.out (Nat.le_refl _) HB.out)).b _
            · go_wp2_with fail
              rw [show (((((w4.setCell ⟨w.heap.size, 0, none⟩ (.int .i64 7)).setCell ⟨w.heap.size, 1, none⟩ (.string vb)).setCell ⟨w.heap.size, 2, none⟩ (.int .i64 (a8 : Int))).setCell ⟨w.heap.size, 3, none⟩ (.int .i64 (E8 : Int))).setCell ⟨w.heap.size, 4, none⟩ (.int .i64 (ca8 : Int))).setCell ⟨w.heap.size, 5, none⟩ (.int .i64 (c8 : Int)) = W from HHW.out]
              refine C3.out.mono ?_
              clear C3
              intro x w5 hO
              have HK8 := Aside0.mk (HW7.out.trans hO.1)
              have hg8 := (hO.1.block w.heap.size (by have := (Array.getElem?_eq_some_iff.1 HG7.out).1; exact this) hne).trans HG7.out
              have HG8 := Aside0.mk hg8
              obtain ⟨⟨n0, n1, n2, n3, n4, n5⟩, y0, y1, y2, y3, y4, y5⟩ := cells6 hg8
              obtain ⟨b9, z9⟩ := (HX.out.kept HK8.out).err (g := 6) (by decide)
              have z9n : w.heap.size ≠ 6 := by
                obtain ⟨b, hb⟩ := HX.out.err (g := 6) (by decide)
                have := World.block_lt_of_cell? w _ hb
                simp only at this
                omega
              unfold errV at z9
              clear hg8
              cases hV : scanE s (s.size + 1) E8 c8 with
              | eof q cq =>
                rw [hV] at hO
                obtain ⟨hk, rfl, hl⟩ := hO
                have HV := Aside0.mk (show stMat s p c = none by rw [HEQ3.out]; unfold stMa3; rw [show sc s E8 c8 = _ from hV])
                clear hk hl hV
                unfold noTok errV
                go_wp2
                go_quiet (fail)
                go_wp2
                go_ret2
                refine (show MPost w0 w P s l (stMat s p c) _ _ from ?_)
                unfold MPost
                rw [HV.out]
                refine ⟨?_, _, _, rfl, _, _, rfl⟩
                exact pw_below_drewN (HX.out.kept (Kept.six HK8.out (Nat.le_refl _) HB.out)).b _
              | bad =>
                rw [hV] at hO
                obtain ⟨hk, r, rfl, hr, hl⟩ := hO
                obtain ⟨T, cs, rfl, hT⟩ := hr
                have HV := Aside0.mk (show stMat s p c = none by rw [HEQ3.out]; unfold stMa3; rw [show sc s E8 c8 = _ from hV])
                clear hk hl hV hT
                unfold noTok
                go_wp2
                go_quiet (fail)
                go_wp2
                go_ret2
                refine (show MPost w0 w P s l (stMat s p c) _ _ from ?_)
                unfold MPost
                rw [HV.out]
                refine ⟨?_, _, _, rfl, _, _, rfl⟩
                exact pw_below_drewN (HX.out.kept (Kept.six HK8.out (Nat.le_refl _) HB.out)).b _
              | tok k7 a7 E7 ca7 c7 =>
                rw [hV] at hO
                obtain ⟨hk, r, rfl, hr1, hr2, hl⟩ := hO
                by_cases h98 : k7 = 9 ∨ k7 = 8
                · have hb : ([9, 8] : List Nat).contains k7 = true := by rw [kl2]; exact decide_eq_true h98
                  obtain rfl := hr1 hb
                  rw [hb] at hl
                  obtain ⟨wd3, hl⟩ := hl
                  have HL8 := Aside0.mk (show LexAt w5 P 2 s .nilIface E7 E7 wd3 c7 c7 from hl)
                  have HEQ4 := Aside0.mk (show stMat s p c = match unqT k7 (s.extract a7 E7) with | none => none | some v => some (⟨((7 : Nat) : Int) - 4, n, v⟩, E7, c7) by rw [HEQ3.out]; unfold stMa3; rw [show sc s E8 c8 = _ from hV]; exact if_pos h98)
                  have HQ := Aside0.mk (show k7 = 8 → Quo (s.extract a7 E7) from fun e => sc_quo (s := s) (p := E8) (c := c8) (by rw [← e]; exact hV))
                  obtain ⟨vc, hvc⟩ : ∃ vc, s.extract a7 E7 = vc := ⟨_, rfl⟩
                  have hvs : vc.size ≤ 2147483647 := by rw [← hvc, ByteArray.size_extract]; have := HS.out.1; omega
                  unfold tokV
                  rw [hvc] at HQ HEQ4 ⊢
                  clear hk hr1 hr2 hl hV hb h98 hvc
                  have HK9 := Aside0.mk (Kept.six (g := w.heap.size) (v0 := .int .i64 (k7 : Int)) (v1 := .string vc) (v2 := .int .i64 (a7 : Int)) (v3 := .int .i64 (E7 : Int)) (v4 := .int .i64 (ca7 : Int)) (v5 := .int .i64 (c7 : Int)) HK8.out (Nat.le_refl _) HB.out)
                  have T1 := Aside0.mk (tunq_calls k7 (a7 : Int) (E7 : Int) (ca7 : Int) (c7 : Int) (HX.out.kept HK9.out).ux hvs HQ.out)
                  clear hvs
                  go_wp2_with fail
                  refine T1.out.mono ?_
                  clear T1
                  intro x w6 hO
                  have HK10 := Aside0.mk (HK9.out.trans (Kept.of_below hO.1 (by have := HL8.out.lt; simpa using this)))
                  have HL10 := Aside0.mk (LexAt.below (LexAt.six (g := w.heap.size) (v0 := .int .i64 (k7 : Int)) (v1 := .string vc) (v2 := .int .i64 (a7 : Int)) (v3 := .int .i64 (E7 : Int)) (v4 := .int .i64 (ca7 : Int)) (v5 := .int .i64 (c7 : Int)) HL8.out hne) hO.1 (by have := HL8.out.lt; simpa using this))
                  have hz := hO.2
                  clear hO n0 n1 n2 n3 n4 n5 y0 y1 y2 y3 y4 y5 z9 HG8 HL8 HK9
                  cases hU : unqT k7 vc with
                  | none =>
                    rw [hU] at hz
                    obtain ⟨o, b, rfl⟩ := hz
                    have HV := Aside0.mk (show stMat s p c = none by rw [HEQ4.out, hU])
                    clear hU
                    unfold errV
                    go_wp2_with fail
                    refine (new_err _ _).mono ?_
                    rintro x w4 ⟨rfl, rfl⟩
                    unfold errV
                    go_wp2
                    go_ret2
                    refine (show MPost w0 w P s l (stMat s p c) _ _ from ?_)
                    unfold MPost
                    rw [HV.out]
                    exact ⟨below_alloc (HX.out.kept HK10.out).b _, _, _, rfl, _, _, rfl⟩
                  | some v =>
                    rw [hU] at hz
                    obtain rfl := hz
                    have HV := Aside0.mk (show stMat s p c = some (⟨((7 : Nat) : Int) - 4, n, v⟩, E7, c7) by rw [HEQ4.out, hU])
                    clear hU HEQ4
                    go_wp2_with fail
                    refine (newMatcher_calls 3 n v w6).mono ?_
                    rintro x w7 ⟨gm, rfl, hgm, hbm, hB⟩
                    have hP6 := HL10.out.lt
                    have HK11 := Aside0.mk (HK10.out.trans (Kept.of_below hB hP6))
                    have HL11 := Aside0.mk (HL10.out.below hB hP6)
                    obtain ⟨u, hu6, hf6, hR6⟩ := HM.out.kept HK10.out.w1
                    have hu7 := (hB.cell (p := ⟨P, 0, none⟩) hP6).trans hu6
                    have hf7 := (hB.frozen (p := ⟨P, 0, none⟩) hP6).trans hf6
                    have hgo : some gm ≠ u.ownBlock := fun e => by have := Kd.R_lt hR6 gm e.symm; omega
                    have hgp : gm ≠ P := by omega
                    have HR7 := Aside0.mk (Kd.R_below hR6 hB)
                    have HNM := Aside0.mk (kMat_new (base := w0.heap.size) (x := ⟨((7 : Nat) : Int) - 4, n, v⟩) (by have := (HX.out.kept HK10.out).b.size; omega) hbm (fun k => k = gm) rfl)
                    have HGG := Aside0.mk (And.intro hgo (And.intro hgp hP6))
                    have HB7 := Aside0.mk (HX.out.kept HK11.out).b
                    have hs7 := HB7.out.size
                    have hPg : P < w7.heap.size := HL11.out.lt
                    clear hR6 hu6 hf6 hbm hgo
                    go_wp2_with ((with_reducible refine gate_builtin (b := .append) (xs := #[.tmp 83, .tmp 85]) rfl ?_); at_builtin; refine Kd.R_append kMat (w0 := w0) w0.heap.size rfl (.tmp 83) (.tmp 85) 35 56 (.pointer none) 8 rfl Tryz.underlying35 infoPM rfl (by decide) (by omega) u l (⟨((7 : Nat) : Int) - 4, n, v⟩ : S74) [.pointer (some ⟨gm, 0, none⟩)] (fun k => k ≠ P) (fun k => k = gm) rfl (by first | (go_simp; done) | (go_simp; rfl)) HNM.out (fun k hk => by subst hk; exact ⟨HGG.out.2.1, HGG.out.1⟩) (fun k hk => by omega) HR7.out HB7.out hs7 (by have := HLN.out; omega) ?_; intro v1 w8 hO8 hB8 hg8 hat8; clear hat8; obtain ⟨A1, c1, e1⟩ := Kd.R_slice hO8; subst e1; have hP8 := hg8.block P hPg (fun e => (HR7.out.1 P e.symm) rfl); have hc8 := (World.cell?_of_block (a := ⟨P, 0, none⟩) hP8).trans hu7; have hf8 := (World.frozen?_of_block (a := ⟨P, 0, none⟩) hP8).trans hf7; have H8 := Aside0.mk (And.intro hO8 (And.intro hB8 (And.intro hP8 hc8))); have HF8 := Aside0.mk hf8; clear hO8 hB8 hg8 hP8 hu7 hf7)
                    go_ret2
                    refine (show MPost w0 w P s l (stMat s p c) _ _ from ?_)
                    unfold MPost
                    rw [HV.out]
                    obtain ⟨hO8, hB8, hP8, hc8⟩ := H8.out
                    have hPb := HX.out.h
                    refine ⟨⟨hB8.os, hB8.tape, hB8.output, by simpa using hB8.size, fun k hk => (Below.heap_setCell w8 _ _ k (by show k ≠ P; omega)).trans (hB8.block k hk)⟩, rfl, ?_, ?_, ⟨wd3, ?_⟩, ⟨_, cs_same hc8, ?_, ?_⟩⟩
                    · exact (cs_other (ne_at (by omega))).trans ((World.cell?_of_block (a := ⟨P, 1, none⟩) hP8).trans (HK11.out.cell 1 (by omega)))
                    · rw [World.frozen?_setCell]
                      exact (World.frozen?_of_block (a := ⟨P, 1, none⟩) hP8).trans (HK11.out.froz 1)
                    · exact (HL11.out.blk hP8).setLow (i := 0) (by omega)
                    · rw [World.frozen?_setCell]; exact HF8.out
                    · rw [List.length_append] at hO8
                      exact Kd.R_step hO8 (fun k ho _ => Below.heap_setCell w8 _ _ k ho)
                · have hb : ([9, 8] : List Nat).contains k7 = false := by rw [kl2]; exact decide_eq_false h98
                  obtain ⟨ne, rfl, _⟩ := hr2 hb
                  have HV := Aside0.mk (show stMat s p c = none by rw [HEQ3.out]; unfold stMa3; rw [show sc s E8 c8 = _ from hV]; exact if_neg h98)
                  clear hk hr1 hr2 hl hV hb h98
                  unfold tokV errV
                  go_wp2
                  go_quiet (fail)
                  go_wp2
                  go_ret2
                  refine (show MPost w0 w P s l (stMat s p c) _ _ from ?_)
                  unfold MPost
                  rw [HV.out]
                  refine ⟨?_, _, _, rfl, _, _, rfl⟩
                  exact pw_below_drewN (HX.out.kept (Kept.six HK8.out (Nat.le_refl _) HB.out)).b _
          · have hb : ([4, 5, 6, 7] : List Nat).contains k8 = false := by simp; omega
            obtain ⟨ne, rfl, _⟩ := hr2 hb
            have HV := Aside0.mk (show stMat s p c = none by rw [HEQ2.out]; unfold stMa2; rw [show sc s E9 c9 = _ from hV]; exact if_neg h47)
            clear hk hr1 hr2 hl hV hb h47
            unfold tokV errV
            go_wp2
            go_quiet (fail)
            go_wp2
            go_ret2
            refine (show MPost w0 w P s l (stMat s p c) _ _ from ?_)
            unfold MPost
            rw [HV.out]
            refine ⟨?_, _, _, rfl, _, _, rfl⟩
            exact pw_below_drewN (HX.out.kept (Kept.six HK5.out (Nat.le_refl _) HB.out)).b _
    · have hb : ([8, 9] : List Nat).contains k9 = false := by rw [kl2]; exact decide_eq_false h89
      obtain ⟨ne, rfl, _⟩ := hr2 hb
      have HV := Aside0.mk (show stMat s p c = none by unfold stMat; rw [show sc s p c = _ from hV]; exact if_neg h89)
      clear hk hr1 hr2 hl hV hb h89
      unfold tokV errV
      go_wp2
      go_quiet (fail)
      go_wp2
      go_ret2
      refine (show MPost w0 w P s l (stMat s p c) _ _ from ?_)
      unfold MPost
      rw [HV.out]
      refine ⟨?_, _, _, rfl, _, _, rfl⟩
      exact pw_below_drewN (HX.out.kept (Kept.six HK1.out (Nat.le_refl _) HB.out)).b _
end
end Go.Proofs.YtmjoebnphacadaaGreatDoor.Lex
/- parse.parser: the states' run as a function. -/
namespace Go.Proofs.YtmjoebnphacadaaGreatDoor.Lex
open Go.RowKit Go.Lib Go.Proofs.YtmjoebnphacadaaGreatDoorW.PrintWords Go.Proofs.YtmjoebnphacadaaGreatDoorW.PrintLast Go.Proofs.YtmjoebnphacadaaGreatDoor.Q
set_option linter.unusedVariables false
set_option linter.unusedSimpArgs false
abbrev SMt := S74
/-- One step: failed, done, or the next state with what is read so far. -/
inductive ST
  | fail
  | done (l : List SMt)
  | next (q : PS) (has : Bool) (p c : Nat) (l : List SMt)
def ofSR (l : List SMt) : SR → ST
  | .fail => .fail
  | .done => .done l
  | .next q has p c => .next q has p c l
noncomputable def stp (s : ByteArray) (q : PS) (has : Bool) (p c : Nat) (l : List SMt) : ST :=
  match q with
  | .opn => ofSR l (stOpn s p c)
  | .cls => ofSR l (stCls s has p c)
  | .emt => ofSR l (stEmt s has p c)
  | .com => ofSR l (stCom s has p c)
  | .eof => ofSR l (stEof s p c)
  | .mat => match stMat s p c with | none => .fail | some u => .next .emt has u.2.1 u.2.2 (l ++ [u.1])
def PS.rank : PS → Nat
  | .opn => 6 | .mat => 5 | .emt => 4 | .com => 3 | .cls => 2 | .eof => 1
/-- The parser's run. -/
noncomputable def run (s : ByteArray) : Nat → PS → Bool → Nat → Nat → List SMt → Option (List SMt)
  | 0, _, _, _, _, _ => none
  | f + 1, q, has, p, c, l =>
    match stp s q has p c l with
    | .fail => none
    | .done l => some l
    | .next q has p c l => run s f q has p c l
theorem sc_le {s : ByteArray} {p c k a e ca ce : Nat} (hp : p ≤ s.size) (hc : c ≤ p) (h : sc s p c = .tok k a e ca ce) : p < e ∧ e ≤ s.size ∧ ce ≤ e := by
  have := scanE_le _ _ _ _ _ _ _ _ hp hc h
  omega
/-- What a step leaves. -/
structure Went (s : ByteArray) (q : PS) (p : Nat) (l : List SMt) (q2 : PS) (p2 c2 : Nat) (l2 : List SMt) : Prop where
  hp : p2 ≤ s.size
  hc : c2 ≤ p2
  hm : 8 * (s.size - p2) + q2.rank < 8 * (s.size - p) + q.rank
  hk : q2 = .cls → sc s p2 c2 ≠ .bad
  hl : l2.length ≤ l.length + 1
theorem stMat_le {s : ByteArray} {p c : Nat} {u : SMt × Nat × Nat} (hp : p ≤ s.size) (hc : c ≤ p) (h : stMat s p c = some u) : p < u.2.1 ∧ u.2.1 ≤ s.size ∧ u.2.2 ≤ u.2.1 := by
  unfold stMat at h
  split at h
  · rename_i k a E ca C h1
    have l1 := sc_le hp hc h1
    split at h
    · split at h
      · simp at h
      · unfold stMa2 at h
        split at h
        · rename_i k2 a2 E2 ca2 C2 h2
          have l2 := sc_le l1.2.1 l1.2.2 h2
          split at h
          · unfold stMa3 at h
            split at h
            · rename_i k3 a3 E3 ca3 C3 h3
              have l3 := sc_le l2.2.1 l2.2.2 h3
              split at h
              · split at h
                · simp at h
                · obtain rfl := Option.some.inj h
                  exact ⟨by show p < E3; omega, l3.2.1, l3.2.2⟩
              · simp at h
            · simp at h
          · simp at h
        · simp at h
    · simp at h
  · simp at h
theorem ofSR_next {l l2 : List SMt} {R : SR} {q2 : PS} {has2 : Bool} {p2 c2 : Nat} (h : ofSR l R = .next q2 has2 p2 c2 l2) : R = .next q2 has2 p2 c2 ∧ l2 = l := by
  cases R with
  | fail => exact nomatch h
  | done => exact nomatch h
  | next q has p c => simp only [ofSR, ST.next.injEq] at h; obtain ⟨rfl, rfl, rfl, rfl, rfl⟩ := h; exact ⟨rfl, rfl⟩
theorem stOpn2_next {s : ByteArray} {has : Bool} {p c p2 c2 : Nat} {has2 : Bool} {q2 : PS} (h : stOpn2 s has p c = .next q2 has2 p2 c2) : p2 = p ∧ c2 = c ∧ ((q2 = .cls ∧ sc s p c ≠ .bad) ∨ q2 = .mat) := by
  unfold stOpn2 at h
  cases hs : sc s p c with
  | bad => rw [hs] at h; exact nomatch h
  | eof q cq => rw [hs] at h; simp only [SR.next.injEq] at h; obtain ⟨rfl, rfl, rfl, rfl⟩ := h; exact ⟨rfl, rfl, .inl ⟨rfl, by simp⟩⟩
  | tok k a E ca C =>
    rw [hs] at h
    dsimp only at h
    by_cases hk : k = 2
    · rw [if_pos hk] at h; simp only [SR.next.injEq] at h; obtain ⟨rfl, rfl, rfl, rfl⟩ := h; exact ⟨rfl, rfl, .inl ⟨rfl, by simp⟩⟩
    · rw [if_neg hk] at h; simp only [SR.next.injEq] at h; obtain ⟨rfl, rfl, rfl, rfl⟩ := h; exact ⟨rfl, rfl, .inr rfl⟩
theorem stp_next {s : ByteArray} {q : PS} {has : Bool} {p c : Nat} {l : List SMt} {q2 : PS} {has2 : Bool} {p2 c2 : Nat} {l2 : List SMt} (hp : p ≤ s.size) (hc : c ≤ p) (h : stp s q has p c l = .next q2 has2 p2 c2 l2) : Went s q p l q2 p2 c2 l2 := by
  cases q with
  | opn =>
    have hh := ofSR_next (show ofSR l (stOpn s p c) = _ from h)
    clear h
    obtain ⟨h, rfl⟩ := hh
    unfold stOpn at h
    cases hs : sc s p c with
    | bad => rw [hs] at h; exact nomatch h
    | eof q cq => rw [hs] at h; simp only [SR.next.injEq] at h; obtain ⟨rfl, rfl, rfl, rfl⟩ := h; exact ⟨hp, hc, by simp [PS.rank], by simp, by omega⟩
    | tok k a E ca C =>
      rw [hs] at h
      dsimp only at h
      have hl := sc_le hp hc hs
      by_cases hk : k = 1
      · rw [if_pos hk] at h
        obtain ⟨rfl, rfl, h2⟩ := stOpn2_next h
        rcases h2 with ⟨rfl, hn⟩ | rfl
        · exact ⟨hl.2.1, hl.2.2, by simp [PS.rank]; omega, fun _ => hn, by omega⟩
        · exact ⟨hl.2.1, hl.2.2, by simp [PS.rank]; omega, by simp, by omega⟩
      · rw [if_neg hk] at h
        obtain ⟨rfl, rfl, h2⟩ := stOpn2_next h
        rcases h2 with ⟨rfl, hn⟩ | rfl
        · exact ⟨hp, hc, by simp [PS.rank], fun _ => hn, by omega⟩
        · exact ⟨hp, hc, by simp [PS.rank], by simp, by omega⟩
  | cls =>
    have hh := ofSR_next (show ofSR l (stCls s has p c) = _ from h)
    clear h
    obtain ⟨h, rfl⟩ := hh
    unfold stCls at h
    split at h
    · rename_i k a E ca C hs
      have hl := sc_le hp hc hs
      repeat' split at h
      all_goals first | (simp at h; done) | (simp only [SR.next.injEq] at h; obtain ⟨rfl, rfl, rfl, rfl⟩ := h; first | exact ⟨hl.2.1, hl.2.2, by simp [PS.rank]; omega, by simp, by omega⟩ | exact ⟨hp, hc, by simp [PS.rank], by simp, by omega⟩)
    · repeat' split at h
      all_goals first | (simp at h; done) | (simp only [SR.next.injEq] at h; obtain ⟨rfl, rfl, rfl, rfl⟩ := h; exact ⟨hp, hc, by simp [PS.rank], by simp, by omega⟩)
  | emt =>
    have hh := ofSR_next (show ofSR l (stEmt s has p c) = _ from h)
    clear h
    obtain ⟨h, rfl⟩ := hh
    unfold stEmt at h
    cases hs : sc s p c with
    | bad => rw [hs] at h; exact nomatch h
    | eof q cq => rw [hs] at h; simp only [SR.next.injEq] at h; obtain ⟨rfl, rfl, rfl, rfl⟩ := h; exact ⟨hp, hc, by simp [PS.rank], by simp [hs], by omega⟩
    | tok k a E ca C =>
      rw [hs] at h
      dsimp only at h
      repeat' split at h
      all_goals first | (simp at h; done) | (simp only [SR.next.injEq] at h; obtain ⟨rfl, rfl, rfl, rfl⟩ := h; exact ⟨hp, hc, by simp [PS.rank], by simp [hs], by omega⟩)
  | com =>
    have hh := ofSR_next (show ofSR l (stCom s has p c) = _ from h)
    clear h
    obtain ⟨h, rfl⟩ := hh
    unfold stCom at h
    split at h
    · rename_i k a E ca C hs
      have hl := sc_le hp hc hs
      split at h
      · split at h
        · exact nomatch h
        · rename_i q cq hs2
          simp only [SR.next.injEq] at h; obtain ⟨rfl, rfl, rfl, rfl⟩ := h
          exact ⟨hl.2.1, hl.2.2, by simp [PS.rank]; omega, by simp [hs2], by omega⟩
        · rename_i hs2
          repeat' split at h
          all_goals first | (simp at h; done) | (simp only [SR.next.injEq] at h; obtain ⟨rfl, rfl, rfl, rfl⟩ := h; exact ⟨hl.2.1, hl.2.2, by simp [PS.rank]; omega, by simp [hs2], by omega⟩)
      · exact nomatch h
    · exact nomatch h
  | eof =>
    have hh := ofSR_next (show ofSR l (stEof s p c) = _ from h)
    clear h
    obtain ⟨h, rfl⟩ := hh
    unfold stEof at h
    split at h <;> exact nomatch h
  | mat =>
    unfold stp at h
    dsimp only at h
    cases hs : stMat s p c with
    | none => rw [hs] at h; exact nomatch h
    | some u =>
      rw [hs] at h
      simp only [ST.next.injEq] at h
      obtain ⟨rfl, rfl, rfl, rfl, rfl⟩ := h
      have hl := stMat_le hp hc hs
      exact ⟨hl.2.1, hl.2.2, by simp [PS.rank]; omega, by simp, by simp⟩
end Go.Proofs.YtmjoebnphacadaaGreatDoor.Lex
/- parse.parser: parse. -/
namespace Go.Proofs.YtmjoebnphacadaaGreatDoor.Lex
open Go.RowKit Go.Lib Go.Proofs.YtmjoebnphacadaaGreatDoorW.PrintWords Go.Proofs.YtmjoebnphacadaaGreatDoorW.PrintLast Go.Proofs.YtmjoebnphacadaaGreatDoor.Q
set_option linter.unusedVariables false
set_option linter.unusedSimpArgs false
/-- The parser in memory, at a state of its run. -/
structure PAt (w0 w : World) (P : Nat) (ea : Addr) (s : ByteArray) (has : Bool) (p c : Nat) (l : List SMt) : Prop where
  x : Px w0 w P ea
  k : w.cell? ⟨P, 1, none⟩ = some (.bool has)
  f : w.frozen? ⟨P, 1, none⟩ = false
  a : ∃ wd, LexAt w P 2 s .nilIface p p wd c c
  m : MS w w0.heap.size P l
/-- What a step has done. -/
def WPost (w0 : World) (P : Nat) (ea : Addr) (s : ByteArray) (R : ST) (x : Ending) (w' : World) : Prop := Below w0.heap.size w0 w' ∧ match R with
  | .fail => ∃ f er, x = .returned (.tuple #[f, er]) ∧ IsErr er
  | .done l => x = .returned (.tuple #[.nilFunc, .nilIface]) ∧ MS w' w0.heap.size P l
  | .next q has p c l => x = .returned (.tuple #[psV P q, .nilIface]) ∧ PAt w0 w' P ea s has p c l
theorem wpost_of {w0 w w' : World} {P : Nat} {ea : Addr} {s : ByteArray} {R : SR} {x : Ending} {l : List SMt} (hX : Px w0 w P ea) (hf : w.frozen? ⟨P, 1, none⟩ = false) (hM : MS w w0.heap.size P l) (h : StPost w P s R x w') : WPost w0 P ea s (ofSR l R) x w' := by
  obtain ⟨hk, h⟩ := h
  refine ⟨hX.b.trans (hk.below hX.h hX.b.size), ?_⟩
  cases R with
  | fail => exact h
  | done => exact ⟨h, hM.kept hk⟩
  | next q has p c =>
    obtain ⟨rfl, h1, wd, hl⟩ := h
    exact ⟨rfl, ⟨hX.t, hX.b.trans (hk.below hX.h hX.b.size), hX.h⟩, h1, (hk.froz 1).trans hf, ⟨wd, hl⟩, hM.kept hk⟩
theorem step_calls {w0 w : World} {P : Nat} {ea : Addr} {s : ByteArray} {q : PS} {has : Bool} {p c : Nat} {l : List SMt} (h : PAt w0 w P ea s has p c l) (hs : s.size ≤ 2147483647) (hp : p ≤ s.size) (hc : c ≤ p) (hl : l.length ≤ 1000000000) (hk : q = .cls → sc s p c ≠ .bad) :
    Calls Tryz.prog (psF q) #[.pointer (some ⟨P, 0, none⟩), .pointer (some ⟨P, 2, none⟩)] w (WPost w0 P ea s (stp s q has p c l)) := by
  obtain ⟨wd, ha⟩ := h.a
  cases q with
  | opn => exact (st_opn has h.x ha h.k h.f hs hp hc).mono fun x w' hh => wpost_of h.x h.f h.m hh
  | cls => exact (st_cls has h.x ha h.k hs hp hc (fun _ => hk rfl)).mono fun x w' hh => wpost_of h.x h.f h.m hh
  | emt => exact (st_emt has h.x ha h.k hs hp hc).mono fun x w' hh => wpost_of h.x h.f h.m hh
  | com => exact (st_com has h.x ha h.k hs hp hc).mono fun x w' hh => wpost_of h.x h.f h.m hh
  | eof => exact (st_eof h.x ha hs hp hc).mono fun x w' hh => wpost_of h.x h.f h.m hh
  | mat =>
    refine (st_mat h.x ha h.m hs hp hc hl).mono fun x w' hh => ?_
    obtain ⟨hb, hh⟩ := hh
    refine ⟨hb, ?_⟩
    unfold stp
    dsimp only
    cases hm : stMat s p c with
    | none => rw [hm] at hh; exact hh
    | some u =>
      rw [hm] at hh
      obtain ⟨rfl, h1, h2, h3, h4⟩ := hh
      exact ⟨rfl, ⟨h.x.t, hb, h.x.h⟩, h1.trans h.k, h2.trans h.f, h3, h4⟩
def psQ : Value → PS
  | .func (.func n) _ _ => if n = psF .opn then .opn else if n = psF .mat then .mat else if n = psF .emt then .emt else if n = psF .com then .com else if n = psF .cls then .cls else .eof
  | _ => .eof
theorem psQ_of (P : Nat) (q : PS) : psQ (psV P q) = q := by cases q <;> rfl
/-- What parse has done. -/
def RPost (w0 : World) (P : Nat) (R : Option (List SMt)) (x : Ending) (w' : World) : Prop := Below w0.heap.size w0 w' ∧ match R with
  | none => ∃ v er, x = .returned (.tuple #[v, er]) ∧ IsErr er
  | some l => ∃ v, x = .returned (.tuple #[v, .nilIface]) ∧ Kd.R kMat 56 w' w0.heap.size (fun k => k ≠ P) v l
set_option maxHeartbeats 3200000 in
set_option maxRecDepth 100000 in
theorem parse_calls {w0 w : World} {P : Nat} {ea : Addr} {s : ByteArray} (h : PAt w0 w P ea s false 0 0 []) (hs : s.size ≤ 1000000) :
    Calls Tryz.prog 16 #[.pointer (some ⟨P, 0, none⟩)] w (RPost w0 P (run s (8 * s.size + 7) .opn false 0 0 [])) := by
  obtain ⟨R, hR⟩ : ∃ R, run s (8 * s.size + 7) .opn false 0 0 [] = R := ⟨_, rfl⟩
  rw [hR]
  have H := Aside0.mk h
  have HR := Aside0.mk hR
  have HS := Aside0.mk hs
  clear h hR hs
  have hmf : ∀ (fn : Fn) (first cap : Array Value) (w : World), (Instr.makeFunc fn first cap).run Tryz.prog w = .ok (.func fn first cap) w := fun _ _ _ _ => rfl
  have hnn : ∀ (w : World), Sem.run Tryz.prog (binOp BinOp.eql 68 .nilFunc .nilFunc) w = .ok (.bool true) w := fun _ => rfl
  have hnf : ∀ (fn : Fn) (a b : Array Value) (w : World), Sem.run Tryz.prog (binOp BinOp.eql 68 (.func fn a b) .nilFunc) w = .ok (.bool false) w := fun _ _ _ _ => rfl
  go_enter Tryz.func16, Tryz.ntmps16
  go_wp2
  go_loopw [4, 5] (fun v4 v5 wr => ∃ (q : PS) (has : Bool) (p c : Nat) (l : List SMt) (f : Nat), v4 = .nilIface ∧ v5 = psV P q ∧ Aside0 (PAt w0 wr P ea s has p c l) ∧ Aside0 (run s f q has p c l = R ∧ 8 * (s.size - p) + q.rank < f ∧ p ≤ s.size ∧ c ≤ p ∧ (q = .cls → sc s p c ≠ .bad) ∧ l.length + (8 * (s.size - p) + q.rank) ≤ 8 * s.size + 7)) (fun _ v5 wr => 8 * (s.size - posAt wr P 2) + (psQ v5).rank)
  case atStart => exact ⟨.opn, false, 0, 0, [], 8 * s.size + 7, rfl, rfl, H, ⟨HR.out, by simp [PS.rank], by omega, by omega, by simp, by simp [PS.rank]⟩⟩
  case round =>
    clear H HR
    obtain ⟨q, has, p, c, l, f, rfl, rfl, HP, HU⟩ := hrel
    obtain ⟨g, rfl⟩ : ∃ g, f = g + 1 := ⟨f - 1, by have := HU.out.2.1; omega⟩
    have C := Aside0.mk (step_calls HP.out (by have := HS.out; omega) HU.out.2.2.1 HU.out.2.2.2.1 (by have := HU.out.2.2.2.2.2; have := HS.out; omega) HU.out.2.2.2.2.1)
    have hm0 : posAt wr P 2 = p := by obtain ⟨wd, ha⟩ := HP.out.a; exact posAt_of ha
    have HM0 := Aside0.mk hm0
    clear hm0
    unfold psV
    have hcf : ∀ (args : Array Value) (w : World), Sem.run Tryz.prog (callFunc (psF q) args) w = .ok (.enter (psF q) args) w := by intro args w; cases q <;> rfl
    go_wp2_with fail
    clear hcf
    refine C.out.mono ?_
    clear C
    intro x w2 hO
    obtain ⟨hb, hO⟩ := hO
    have HB := Aside0.mk hb
    clear hb
    have hrun := HU.out.1
    unfold run at hrun
    cases hst : stp s q has p c l with
    | fail =>
      rw [hst] at hO hrun
      obtain ⟨fv, er, rfl, T, u, rfl⟩ := hO
      dsimp only at hrun
      subst hrun
      clear hst
      go_wp2
      go_ret2
      exact ⟨HB.out, _, _, rfl, _, _, rfl⟩
    | done l2 =>
      rw [hst] at hO hrun
      obtain ⟨rfl, hM⟩ := hO
      dsimp only at hrun
      subst hrun
      obtain ⟨v, hv, hf, hRR⟩ := hM
      have HRR := Aside0.mk hRR
      clear hst hRR
      go_wp2
      go_ret2
      exact ⟨HB.out, _, rfl, HRR.out⟩
    | next q2 has2 p2 c2 l2 =>
      rw [hst] at hO hrun
      obtain ⟨rfl, hP2⟩ := hO
      dsimp only at hrun
      have HP2 := Aside0.mk hP2
      have W := stp_next HU.out.2.2.1 HU.out.2.2.2.1 hst
      have HU2 := Aside0.mk (show run s g q2 has2 p2 c2 l2 = R ∧ 8 * (s.size - p2) + q2.rank < g ∧ p2 ≤ s.size ∧ c2 ≤ p2 ∧ (q2 = .cls → sc s p2 c2 ≠ .bad) ∧ l2.length + (8 * (s.size - p2) + q2.rank) ≤ 8 * s.size + 7 from ⟨hrun, by have := HU.out.2.1; have := W.hm; omega, W.hp, W.hc, W.hk, by have := HU.out.2.2.2.2.2; have := W.hl; have := W.hm; omega⟩)
      have HWm := Aside0.mk W.hm
      clear hst hrun hP2 W
      unfold psV
      go_wp2
      go_roundw
      case rel => exact ⟨q2, has2, p2, c2, l2, g, rfl, rfl, HP2, HU2⟩
      case measure =>
        have h2 : posAt w2 P 2 = p2 := by obtain ⟨wd, ha⟩ := HP2.out.a; exact posAt_of ha
        have e1 := psQ_of P q2
        have e2 := psQ_of P q
        unfold psV at e1 e2
        rw [h2, HM0.out, e1, e2]
        exact HWm.out
end Go.Proofs.YtmjoebnphacadaaGreatDoor.Lex
/- parse.Matchers, parse.Matcher. -/
namespace Go.Proofs.YtmjoebnphacadaaGreatDoor.Lex
open Go.RowKit Go.Lib Go.Proofs.YtmjoebnphacadaaGreatDoorW.PrintWords Go.Proofs.YtmjoebnphacadaaGreatDoorW.PrintLast Go.Proofs.YtmjoebnphacadaaGreatDoor.Q
set_option linter.unusedVariables false
set_option linter.unusedSimpArgs false
/-- The matchers of a text. -/
noncomputable def parseL (s : ByteArray) : Option (List SMt) := run s (8 * s.size + 7) .opn false 0 0 []
theorem ET.below {w w' : World} {ea : Addr} (h : ET w ea) (hb : Below w.heap.size w w') : ET w' ea := by
  refine ⟨h.t.below hb, (hb.cell (World.block_lt_of_cell? w _ h.e)).trans h.e, ?_, ?_⟩
  · obtain ⟨cs, t, hr⟩ := h.r
    exact ⟨cs, t, (hb.block _ (Array.getElem?_eq_some_iff.1 hr).1).trans hr⟩
  · intro g hg
    obtain ⟨b, hb2⟩ := h.o g hg
    exact ⟨b, (hb.cell (World.block_lt_of_cell? w _ hb2)).trans hb2⟩
theorem catch_idle (p : Addr) (w : World) :
    CallsD Tryz.prog 14 #[.pointer (some p)] .returning w fun e u' w' => e = .returned (.tuple #[]) ∧ u' = .returning ∧ w' = w := by
  refine callsD_of_wpS Tryz.func14 rfl fun c₀ cs hu => ?_
  apply wpS_seq
  apply wpS_region
  simp [wpOpsS, go_sem, recoverD, hu, Tryz.ntmps14, Exit.thenS]
  apply wpS_seq
  apply wpS_region
  simp [wpOpsS, go_sem, hu, Exit.thenS]
  refine wpS_cond (t := false) (by simp [Act.eval, Array.replicate]) ?_
  simp only [Bool.false_eq_true, if_false]
  refine wpS_of_wp (wp_skip ?_)
  cases c₀
  simp_all [bodyPostS, results, Tryz.results14]
/-- What Matchers has done. -/
def LPost (w : World) (R : Option (List SMt)) (x : Ending) (w' : World) : Prop := Below w.heap.size w w' ∧ match R with
  | none => ∃ v er, x = .returned (.tuple #[v, er]) ∧ IsErr er
  | some l => ∃ v, x = .returned (.tuple #[v, .nilIface]) ∧ Kd.R kMat 56 w' w.heap.size (fun _ => True) v l
set_option maxHeartbeats 3200000 in
set_option maxRecDepth 100000 in
theorem matchers_calls {w : World} {ea : Addr} {s : ByteArray} (h : ET w ea) (hs : s.size ≤ 1000000) :
    Calls Tryz.prog 9 #[.string s] w (LPost w (parseL s)) := by
  obtain ⟨R, hR⟩ : ∃ R, parseL s = R := ⟨_, rfl⟩
  rw [hR]
  unfold parseL at hR
  have H := Aside0.mk h
  have HR := Aside0.mk hR
  have HS := Aside0.mk hs
  clear h hR hs
  have hmf : ∀ (fn : Fn) (first cap : Array Value) (w : World), (Instr.makeFunc fn first cap).run Tryz.prog w = .ok (.func fn first cap) w := fun _ _ _ _ => rfl
  have hb1 : Below w.heap.size w (w.alloc (.cells #[.nilIface] 37)) := below_alloc (Below.refl _ _) _
  have hPA : PAt (w.alloc (.cells #[.nilIface] 37)) ((w.alloc (.cells #[.nilIface] 37)).alloc (.cells #[.slice none 0 0, .bool false, .string s, .nilIface, .int .i64 0, .int .i64 0, .int .i64 0, .int .i64 0, .int .i64 0] 54)) (w.heap.size + 1) ea s false 0 0 [] := by
    have hn : ((w.alloc (.cells #[.nilIface] 37)).alloc (.cells #[.slice none 0 0, .bool false, .string s, .nilIface, .int .i64 0, .int .i64 0, .int .i64 0, .int .i64 0, .int .i64 0] 54)).heap[w.heap.size + 1]? = _ := Box.new_at (by simp) _
    refine ⟨⟨H.out.below hb1, below_alloc (Below.refl _ _) _, by simp⟩, ?_, ?_, ⟨0, ?_⟩, ⟨.slice none 0 0, ?_, ?_, Kd.R_nil _ _ _ _ _⟩⟩
    · exact (blk_cell hn 1).trans rfl
    · unfold World.frozen?; rw [hn]; rfl
    · constructor
      all_goals
        first | unfold World.cell? | unfold World.frozen?
        rw [hn]
        rfl
    · exact (blk_cell hn 0).trans rfl
    · unfold World.frozen?; rw [hn]; rfl
  have C := Aside0.mk (parse_calls hPA HS.out)
  have HB1 := Aside0.mk hb1
  rw [HR.out] at C
  clear hPA hb1
  go_enter_defers Tryz.func9, Tryz.ntmps9
  go_wp2_with fail
  refine C.out.mono ?_
  clear C HR HS H
  intro x w1 hO
  obtain ⟨hb, hO⟩ := hO
  have hg : w1.heap[w.heap.size]? = some (.cells #[.nilIface] 37 (0, 0)) := (hb.block _ (by simp)).trans (Box.new_at rfl _)
  have hc : w1.cell? ⟨w.heap.size, 0, none⟩ = some .nilIface := (blk_cell hg 0).trans rfl
  have hz : w1.frozen? ⟨w.heap.size, 0, none⟩ = false := by unfold World.frozen?; rw [hg]; rfl
  have HB := Aside0.mk hb
  have HG := Aside0.mk hg
  clear hb hg
  cases R with
  | none =>
    obtain ⟨v, er, rfl, T, u, rfl⟩ := hO
    go_wp2
    refine leaves_cons (f := 14) (args := #[.pointer (some ⟨w.heap.size, 0, none⟩)]) (by simp) (by simp [go_sem]) ?_
    refine (catch_idle ⟨w.heap.size, 0, none⟩ _).mono ?_
    rintro e u' w'' ⟨rfl, rfl, rfl⟩
    have hc2 : (w1.setCell ⟨w.heap.size, 0, none⟩ (.iface T u)).cell? ⟨w.heap.size, 0, none⟩ = some (.iface T u) := cs_same hc
    simp [Leaves, settle, results, Tryz.results9, go_sem, hc2]
    have hBl : Below w.heap.size w (w1.setCell ⟨w.heap.size, 0, none⟩ (.iface T u)) := (HB1.out.trans (HB.out.mono (by simp))).setCell (Nat.le_refl _) _
    exact ⟨hBl, v, _, rfl, T, u, rfl⟩
  | some l =>
    obtain ⟨v, rfl, hRR⟩ := hO
    have HRR := Aside0.mk hRR
    clear hRR
    go_wp2
    refine leaves_cons (f := 14) (args := #[.pointer (some ⟨w.heap.size, 0, none⟩)]) (by simp) (by simp [go_sem]) ?_
    refine (catch_idle ⟨w.heap.size, 0, none⟩ _).mono ?_
    rintro e u' w'' ⟨rfl, rfl, rfl⟩
    have hc2 : (w1.setCell ⟨w.heap.size, 0, none⟩ .nilIface).cell? ⟨w.heap.size, 0, none⟩ = some .nilIface := cs_same hc
    simp [Leaves, settle, results, Tryz.results9, go_sem, hc2]
    have hBl : Below w.heap.size w (w1.setCell ⟨w.heap.size, 0, none⟩ .nilIface) := (HB1.out.trans (HB.out.mono (by simp))).setCell (Nat.le_refl _) _
    have hR2 := Kd.R_mono (ok' := fun _ => True) (Kd.R_lower (base' := w.heap.size) (Kd.R_far (Kd.R_bound HRR.out) (p := ⟨w.heap.size, 0, none⟩) (fun k hk => by have := hk.2.1; simp at this; show k ≠ w.heap.size; omega) .nilIface) (by simp)) (fun _ _ => trivial)
    exact ⟨hBl, v, rfl, hR2⟩
theorem kMat_open {w : World} {x : S74} {cs : List Value} (h : kMat.K w x cs) : ∃ g, cs = [.pointer (some ⟨g, 0, none⟩)] ∧ w.heap[g]? = some (.cells #[.int .i64 x.f0, .string x.f1, .string x.f2] 74 (0, 0)) := by
  obtain ⟨g, cs', e, hg, hk⟩ := h
  have e' := k74_open hk
  refine ⟨g, e, ?_⟩
  rw [hg]
  congr 2
  exact Array.toList_inj.1 e'
def zMat : SMt := ⟨0, ⟨#[]⟩, ⟨#[]⟩⟩
end Go.Proofs.YtmjoebnphacadaaGreatDoor.Lex
/- impl.outer, impl.outers, impl.ParseMatchers, impl.ParseMatcher. -/
namespace Go.Proofs.YtmjoebnphacadaaGreatDoor.Lex
open Go.RowKit Go.Lib Go.Proofs.YtmjoebnphacadaaGreatDoorW.PrintWords Go.Proofs.YtmjoebnphacadaaGreatDoorW.PrintLast Go.Proofs.YtmjoebnphacadaaGreatDoor.Q
set_option linter.unusedVariables false
set_option linter.unusedSimpArgs false
def ofMat (x : S74) : S33 := ⟨x.f0, x.f1, x.f2⟩
set_option maxHeartbeats 3200000 in
set_option maxRecDepth 100000 in
theorem impl_outer.calls (g : Nat) (a : Int) (b c : ByteArray) (w : World) (h : w.heap[g]? = some (.cells #[.int .i64 a, .string b, .string c] 74 (0, 0))) :
    Calls Tryz.prog 17 #[.pointer (some ⟨g, 0, none⟩)] w fun e w' => e = .returned (.agg #[.int .i64 a, .string b, .string c]) ∧ Below w.heap.size w w' := by
  have hl := blk_lt h
  have c0 : w.cell? ⟨g, 0, none⟩ = some (.int .i64 a) := (blk_cell h 0).trans rfl
  have c1 : w.cell? ⟨g, 1, none⟩ = some (.string b) := (blk_cell h 1).trans rfl
  have c2 : w.cell? ⟨g, 2, none⟩ = some (.string c) := (blk_cell h 2).trans rfl
  clear h
  have hne : g ≠ w.heap.size := by omega
  go_enter Tryz.func17, Tryz.ntmps17
  go_wp2
  go_region_held3 (fun w' => w'.cell? ⟨g, 0, none⟩ = some (.int .i64 a) ∧ w'.cell? ⟨g, 1, none⟩ = some (.string b) ∧ w'.cell? ⟨g, 2, none⟩ = some (.string c)) (go_keep) (fail)
  all_goals (try go_wp2)
  refine bodyPost_ret (v := .agg #[.int .i64 a, .string b, .string c]) ?_ rfl ?_
  · simp [results]
    go_simp
  · exact ⟨rfl, by repeat (first | exact below_alloc (Below.refl _ _) _ | apply below_drew1 | apply pw_below_drewN)⟩
theorem infoIM : (Tryz.prog.info? 33).map (fun i => (i.zero, i.size, i.bytes)) = some (some (.agg #[.int .i64 0, .string ⟨#[]⟩, .string ⟨#[]⟩]), 3, 40) := by kernel_rfl
set_option maxHeartbeats 3200000 in
set_option maxRecDepth 100000 in
theorem impl_outers.calls (A0 : Option Addr) (c0 : Nat) (l0 : List S74) (w : World) (hr0 : Kd.C kMat w A0 l0.length l0) (hl : l0.length ≤ 1000000000) :
    Calls Tryz.prog 10 #[.slice A0 l0.length c0] w fun e w' => ∃ v, e = .returned v ∧ Kd.R k33 33 w' w.heap.size (fun _ => True) v (l0.map ofMat) ∧ Below w.heap.size w w' := by
  have R0 := Aside0.mk hr0
  clear hr0
  go_enter Tryz.func10, Tryz.ntmps10
  go_wp2
  go_loopw [3, 8] (fun v3 v8 wr => ∃ j : Nat, j ≤ l0.length ∧ v8 = .int .i64 j ∧ Aside0 (Kd.R k33 33 wr w.heap.size (fun _ => True) v3 ((l0.take j).map ofMat)) ∧ Aside0 (Below w.heap.size w wr)) (fun _ v8 _ => l0.length - (RowKit.intOf v8).toNat)
  case atStart => exact ⟨0, Nat.zero_le _, rfl, ⟨Kd.R_nil _ _ _ _ _⟩, ⟨Below.refl _ _⟩⟩
  case round =>
    obtain ⟨j, hj, rfl, HO, HB⟩ := hrel
    by_cases hlt : j < l0.length
    · obtain ⟨ad, c, e0, _, hK, hc0⟩ := Kd.C_get (Kd.C_below R0.out HB.out) zMat (j : Int) (by omega) (by omega)
      obtain ⟨g, rfl, hb⟩ := kMat_open hK
      cases e0
      have er : l0.getD (j : Int).toNat zMat = l0[j] := by rw [Int.toNat_natCast, List.getD_eq_getElem?_getD, List.getElem?_eq_getElem hlt]; rfl
      rw [er] at hb
      have hx : wr.cell? (ad.add j) = some (.pointer (some ⟨g, 0, none⟩)) := by
        have := hc0 0 _ rfl
        simpa [kMat, Box.box] using this
      have HT := Aside0.mk (show (l0.take (j + 1)).map ofMat = (l0.take j).map ofMat ++ [(⟨l0[j].f0, l0[j].f1, l0[j].f2⟩ : S33)] by rw [List.take_succ_eq_append_getElem hlt, List.map_append]; rfl)
      clear er hc0 hK
      generalize l0[j] = x at *
      obtain ⟨x0, x1, x2⟩ := x
      simp only at hb HT
      have HP := Aside0.mk hb
      clear hb
      go_wp2_with fail
      refine (impl_outer.calls g x0 x1 x2 wr HP.out).mono ?_
      rintro e w3 ⟨rfl, hB3⟩
      have HO3 := Aside0.mk (Kd.R_below HO.out hB3)
      have HB3 := Aside0.mk (below_step HB.out hB3)
      clear hB3 HO HB HP
      have HS3 := Aside0.mk (below_size HB3.out)
      go_wp2_with ((with_reducible refine gate_builtin (b := .append) (xs := #[.tmp 12, .tmp 15]) rfl ?_); at_builtin; refine Kd.R_append k33 (w0 := w) w.heap.size rfl (.tmp 12) (.tmp 15) 24 33 (.agg #[.int .i64 0, .string ⟨#[]⟩, .string ⟨#[]⟩]) 40 rfl Tryz.underlying24 infoIM rfl (by decide) (by omega) u3 ((l0.take j).map ofMat) (⟨x0, x1, x2⟩ : S33) [.int .i64 x0, .string x1, .string x2] (fun _ => True) (fun _ => False) rfl (by first | (go_simp; done) | (go_simp; rfl)) (k33_mkM _ _ _ (⟨x0, x1, x2⟩ : S33)) (fun _ hk => hk.elim) (fun _ _ => trivial) HO3.out HB3.out HS3.out (by rw [List.length_map, List.length_take]; omega) ?_; intro v2 w4 hO4 hB4 hg4 hat4; rw [← HT.out] at hO4; have HO4 := Aside0.mk hO4; have HB4 := Aside0.mk hB4; clear hO4 hB4 hg4 hat4 HO3 HB3 HT HS3)
      go_roundw
      case rel => exact ⟨j + 1, by omega, by go_num, HO4, HB4⟩
      case measure => simp [RowKit.intOf]; omega
    · have hj2 : j = l0.length := by omega
      subst hj2
      have hO := HO.out
      rw [List.take_of_length_le (Nat.le_refl _)] at hO
      have HO2 := Aside0.mk hO
      clear hO HO
      go_wp2
      go_ret
      exact ⟨_, rfl, HO2.out, HB.out⟩
/-- impl.ParseMatchers of a text: what it answers. -/
noncomputable def pmF (s : ByteArray) : List S33 × Bool := match parseL s with | none => ([], false) | some l => (l.map ofMat, true)
theorem ofSR_done {l l2 : List SMt} {R : SR} (h : ofSR l R = .done l2) : l2 = l := by
  cases R <;> simp [ofSR] at h
  exact h.symm
theorem run_len {s : ByteArray} {f : Nat} {q : PS} {has : Bool} {p c : Nat} {l m : List SMt} (hp : p ≤ s.size) (hc : c ≤ p) (h : run s f q has p c l = some m) : m.length ≤ l.length + (8 * (s.size - p) + q.rank) := by
  induction f generalizing q has p c l with
  | zero => exact nomatch h
  | succ f ih =>
    unfold run at h
    cases hst : stp s q has p c l with
    | fail => rw [hst] at h; exact nomatch h
    | done l2 =>
      rw [hst] at h
      have hm := Option.some.inj h
      obtain rfl : l2 = l := by
        cases q <;> unfold stp at hst <;> dsimp only at hst
        case mat => cases hm : stMat s p c <;> rw [hm] at hst <;> exact nomatch hst
        all_goals exact ofSR_done hst
      subst hm
      omega
    | next q2 has2 p2 c2 l2 =>
      rw [hst] at h
      have W := stp_next hp hc hst
      have := ih W.hp W.hc h
      have := W.hm
      have := W.hl
      omega
theorem parseL_len {s : ByteArray} {l : List SMt} (h : parseL s = some l) : l.length ≤ 8 * s.size + 6 := by
  have := run_len (Nat.zero_le _) (Nat.zero_le _) h
  simpa [PS.rank] using this
set_option maxHeartbeats 3200000 in
set_option maxRecDepth 100000 in
theorem parseMatchers_calls {w : World} {ea : Addr} {s : ByteArray} (h : ET w ea) (hs : s.size ≤ 1000000) :
    Calls Tryz.prog 6 #[.string s] w fun x w' => ∃ v, x = .returned (.tuple #[v, .bool (pmF s).2]) ∧ Kd.R k33 33 w' w.heap.size (fun _ => True) v (pmF s).1 ∧ Below w.heap.size w w' := by
  have C := Aside0.mk (matchers_calls h hs)
  unfold pmF
  obtain ⟨R, hR⟩ : ∃ R, parseL s = R := ⟨_, rfl⟩
  have HL := Aside0.mk (fun l (e : parseL s = some l) => parseL_len e)
  rw [hR] at C HL ⊢
  have HS := Aside0.mk hs
  clear hR h hs
  go_enter Tryz.func6, Tryz.ntmps6
  go_wp2_with fail
  refine C.out.mono ?_
  clear C
  intro x w1 hO
  obtain ⟨hb, hO⟩ := hO
  have HB := Aside0.mk hb
  clear hb
  cases R with
  | none =>
    obtain ⟨v, er, rfl, T, u, rfl⟩ := hO
    go_wp2
    go_ret2
    exact ⟨_, rfl, Kd.R_nil _ _ _ _ _, HB.out⟩
  | some l =>
    obtain ⟨v, rfl, hRR⟩ := hO
    obtain ⟨A, cc, rfl⟩ := Kd.R_slice hRR
    have HC := Aside0.mk (Kd.R_reads' hRR)
    have hl : l.length ≤ 1000000000 := by have := HL.out l rfl; have := HS.out; omega
    have C2 := Aside0.mk (impl_outers.calls A cc l w1 HC.out.2.2 hl)
    clear hRR hl
    go_wp2_with fail
    refine C2.out.mono ?_
    clear C2
    rintro x w2 ⟨v, rfl, hR2, hb2⟩
    have HR2 := Aside0.mk (Kd.R_lower hR2 HB.out.size)
    have HB2 := Aside0.mk (below_step HB.out hb2)
    clear hR2 hb2
    go_wp2
    go_ret2
    exact ⟨_, rfl, HR2.out, HB2.out⟩
end Go.Proofs.YtmjoebnphacadaaGreatDoor.Lex
/- The parser's run over the stream of tokens alone. -/
namespace Go.Proofs.YtmjoebnphacadaaGreatDoor.Lex
open Go.RowKit Go.Lib Go.Proofs.YtmjoebnphacadaaGreatDoorW.PrintWords Go.Proofs.YtmjoebnphacadaaGreatDoorW.PrintLast Go.Proofs.YtmjoebnphacadaaGreatDoor.Q
set_option linter.unusedVariables false
set_option linter.unusedSimpArgs false
/-- A token: its kind and its text. -/
abbrev Tk := Nat × ByteArray
/-- The tokens from a place on; is there the text's end behind them? -/
def strm (s : ByteArray) : Nat → Nat → Nat → List Tk × Bool
  | 0, _, _ => ([], false)
  | f + 1, p, c => match sc s p c with
    | .eof _ _ => ([], true)
    | .bad => ([], false)
    | .tok k a e _ ce => ((k, s.extract a e) :: (strm s f e ce).1, (strm s f e ce).2)
noncomputable def mkT (x y z : Tk) : Option SMt :=
  if x.1 = 8 ∨ x.1 = 9 then (match unqT x.1 x.2 with
    | none => none
    | some n => if y.1 = 4 ∨ y.1 = 5 ∨ y.1 = 6 ∨ y.1 = 7 then (if z.1 = 9 ∨ z.1 = 8 then (match unqT z.1 z.2 with | none => none | some v => some ⟨(y.1 : Int) - 4, n, v⟩) else none) else none) else none
inductive TT
  | fail
  | done (l : List SMt)
  | next (q : PS) (has : Bool) (ts : List Tk) (l : List SMt)
def opnT2 (has : Bool) (l : List SMt) (ts : List Tk) (e : Bool) : TT := match ts with
  | [] => if e = true then .next .cls has [] l else .fail
  | t :: r => if t.1 = 2 then .next .cls has (t :: r) l else .next .mat has (t :: r) l
noncomputable def stT (q : PS) (has : Bool) (l : List SMt) (ts : List Tk) (e : Bool) : TT := match q with
  | .opn => (match ts with
    | [] => if e = true then .next .eof false [] l else .fail
    | t :: r => if t.1 = 1 then opnT2 true l r e else opnT2 false l (t :: r) e)
  | .cls => (match ts with
    | [] => if has = true then .fail else .next .eof has [] l
    | t :: r => if t.1 = 2 then (if has = true then .next .eof has r l else .fail) else (if has = true then .fail else .next .eof has (t :: r) l))
  | .emt => (match ts with
    | [] => if e = true then .next .cls has [] l else .fail
    | t :: r => if t.1 = 3 then .next .com has (t :: r) l else if t.1 = 2 then .next .cls has (t :: r) l else .fail)
  | .com => (match ts with
    | [] => .fail
    | t :: r => if t.1 = 3 then (match r with
      | [] => if e = true then .next .cls has [] l else .fail
      | u :: r2 => if u.1 = 2 then .next .cls has (u :: r2) l else if u.1 = 9 ∨ u.1 = 8 then .next .mat has (u :: r2) l else .fail) else .fail)
  | .eof => (match ts with
    | [] => if e = true then .done l else .fail
    | _ :: _ => .fail)
  | .mat => (match ts with
    | x :: y :: z :: r => (match mkT x y z with | none => .fail | some m => .next .emt has r (l ++ [m]))
    | _ => .fail)
/-- The parser's run over tokens. -/
noncomputable def runT (e : Bool) : Nat → PS → Bool → List Tk → List SMt → Option (List SMt)
  | 0, _, _, _, _ => none
  | f + 1, q, has, ts, l => match stT q has l ts e with
    | .fail => none
    | .done l => some l
    | .next q has ts l => runT e f q has ts l
theorem runT_more {e : Bool} {f : Nat} : ∀ {q : PS} {has : Bool} {ts : List Tk} {l : List SMt}, 8 * ts.length + q.rank < f → runT e (f + 1) q has ts l = runT e f q has ts l := by
  induction f with
  | zero => intro q has ts l h; omega
  | succ f ih =>
    intro q has ts l h
    have key : ∀ {q2 : PS} {has2 : Bool} {ts2 : List Tk} {l2 : List SMt}, stT q has l ts e = .next q2 has2 ts2 l2 → 8 * ts2.length + q2.rank < 8 * ts.length + q.rank := by
      intro q2 has2 ts2 l2 hst
      cases q <;> unfold stT at hst <;> dsimp only at hst
      case opn =>
        split at hst
        · split at hst
          · cases hst; simp [PS.rank]
          · exact nomatch hst
        · unfold opnT2 at hst
          split at hst
          · split at hst
            · split at hst
              · cases hst; simp [PS.rank]
              · exact nomatch hst
            · split at hst <;> (cases hst; simp [PS.rank]; try omega)
          · dsimp only at hst
            split at hst <;> (cases hst; simp [PS.rank]; try omega)
      case mat =>
        split at hst
        · split at hst
          · exact nomatch hst
          · cases hst; simp [PS.rank]; omega
        · exact nomatch hst
      all_goals
        repeat' split at hst
        all_goals first | (simp at hst; done) | (cases hst; simp [PS.rank] <;> omega)
    have e1 : runT e (f + 1 + 1) q has ts l = (match stT q has l ts e with
      | .fail => none
      | .done l => some l
      | .next q has ts l => runT e (f + 1) q has ts l) := rfl
    have e2 : runT e (f + 1) q has ts l = (match stT q has l ts e with
      | .fail => none
      | .done l => some l
      | .next q has ts l => runT e f q has ts l) := rfl
    rw [e1, e2]
    cases hst : stT q has l ts e with
    | fail => rfl
    | done l => rfl
    | next q2 has2 ts2 l2 => exact ih (by have := key hst; omega)
theorem runT_enough {e : Bool} {q : PS} {has : Bool} {ts : List Tk} {l : List SMt} {f : Nat} (g : Nat) (h : 8 * ts.length + q.rank < f) : runT e (f + g) q has ts l = runT e f q has ts l := by
  induction g with
  | zero => rfl
  | succ g ih => rw [← Nat.add_assoc, runT_more (by omega), ih]
/-- The matchers of a stream of tokens. -/
noncomputable def parseT (t : List Tk × Bool) : Option (List SMt) := runT t.2 (8 * t.1.length + 7) .opn false t.1 []
/-- The fuel does not matter, where it reaches the end. -/
def Fed (s : ByteArray) (f p c : Nat) : Prop := p ≤ s.size ∧ c ≤ p ∧ s.size + 1 ≤ f + p
theorem Fed.pos {s : ByteArray} {f p c : Nat} (h : Fed s f p c) : ∃ g, f = g + 1 := ⟨f - 1, by have := h.1; have := h.2.2; omega⟩
theorem Fed.tok {s : ByteArray} {f p c k a e ca ce : Nat} (h : Fed s (f + 1) p c) (hs : sc s p c = .tok k a e ca ce) : Fed s f e ce := by
  have := sc_le h.1 h.2.1 hs
  have := h.2.2
  exact ⟨by omega, by omega, by omega⟩
theorem strm_tok {s : ByteArray} {f p c k a e ca ce : Nat} (h : sc s p c = .tok k a e ca ce) : strm s (f + 1) p c = ((k, s.extract a e) :: (strm s f e ce).1, (strm s f e ce).2) := by
  show (match sc s p c with | .eof _ _ => _ | .bad => _ | .tok k a e ca ce => _) = _
  rw [h]
theorem strm_eof {s : ByteArray} {f p c u v : Nat} (h : sc s p c = .eof u v) : strm s (f + 1) p c = ([], true) := by
  show (match sc s p c with | .eof _ _ => _ | .bad => _ | .tok k a e ca ce => _) = _
  rw [h]
theorem strm_bad {s : ByteArray} {f p c : Nat} (h : sc s p c = .bad) : strm s (f + 1) p c = ([], false) := by
  show (match sc s p c with | .eof _ _ => _ | .bad => _ | .tok k a e ca ce => _) = _
  rw [h]
theorem strm_fed {s : ByteArray} {f : Nat} : ∀ {g p c : Nat}, Fed s f p c → Fed s g p c → strm s f p c = strm s g p c := by
  induction f with
  | zero => intro g p c h; have := h.1; have := h.2.2; omega
  | succ f ih =>
    intro g p c h1 h2
    obtain ⟨g, rfl⟩ := h2.pos
    cases hs : sc s p c with
    | bad => rw [strm_bad hs, strm_bad hs]
    | eof u v => rw [strm_eof hs, strm_eof hs]
    | tok k a e ca ce => rw [strm_tok hs, strm_tok hs, ih (h1.tok hs) (h2.tok hs)]
theorem strm_len {s : ByteArray} {f : Nat} : ∀ {p c : Nat}, Fed s f p c → (strm s f p c).1.length ≤ s.size - p := by
  induction f with
  | zero => intro p c h; have := h.1; have := h.2.2; omega
  | succ f ih =>
    intro p c h
    cases hs : sc s p c with
    | bad => rw [strm_bad hs]; simp
    | eof u v => rw [strm_eof hs]; simp
    | tok k a e ca ce =>
      rw [strm_tok hs]
      have := ih (h.tok hs)
      have := sc_le h.1 h.2.1 hs
      simp only [List.length_cons]
      omega
/-- The stream of a place, with fuel to spare. -/
def S0 (s : ByteArray) (p c : Nat) : List Tk × Bool := strm s (s.size + 1) p c
theorem s0_tok {s : ByteArray} {p c k a e ca ce : Nat} (hp : p ≤ s.size) (hc : c ≤ p) (h : sc s p c = .tok k a e ca ce) : S0 s p c = ((k, s.extract a e) :: (S0 s e ce).1, (S0 s e ce).2) := by
  have hl := sc_le hp hc h
  have e1 : strm s s.size e ce = S0 s e ce := strm_fed ⟨by omega, by omega, by omega⟩ ⟨by omega, by omega, by omega⟩
  unfold S0
  rw [strm_tok h, e1]
  rfl
theorem s0_eof {s : ByteArray} {p c u v : Nat} (h : sc s p c = .eof u v) : S0 s p c = ([], true) := strm_eof h
theorem s0_bad {s : ByteArray} {p c : Nat} (h : sc s p c = .bad) : S0 s p c = ([], false) := strm_bad h
/-- A step of the parser, over the text and over the tokens. -/
def SameST (s : ByteArray) (e : Bool) : ST → TT → Prop
  | .fail, .fail => True
  | .done l, .done m => l = m
  | .next q has p c l, .next q2 has2 ts m => q = q2 ∧ has = has2 ∧ l = m ∧ S0 s p c = (ts, e) ∧ p ≤ s.size ∧ c ≤ p
  | _, _ => False
theorem opn2_same {s : ByteArray} {has : Bool} {p c : Nat} {l : List SMt} (hp : p ≤ s.size) (hc : c ≤ p) : SameST s (S0 s p c).2 (ofSR l (stOpn2 s has p c)) (opnT2 has l (S0 s p c).1 (S0 s p c).2) := by
  unfold stOpn2
  cases hs : sc s p c with
  | bad => rw [s0_bad hs]; trivial
  | eof u v => rw [s0_eof hs]; exact ⟨rfl, rfl, rfl, s0_eof hs, hp, hc⟩
  | tok k a e ca ce =>
    have he := s0_tok hp hc hs
    by_cases hk : k = 2
    · subst hk
      rw [he]
      exact ⟨rfl, rfl, rfl, he, hp, hc⟩
    · rw [he]
      dsimp only [opnT2]
      rw [if_neg hk, if_neg hk]
      exact ⟨rfl, rfl, rfl, he, hp, hc⟩
theorem same_none (s : ByteArray) (e has : Bool) (l : List SMt) : ∀ (X : Option (SMt × Nat × Nat)), X = none → SameST s e (match X with | none => .fail | some u => .next .emt has u.2.1 u.2.2 (l ++ [u.1])) .fail := by
  intro X h
  subst h
  trivial
theorem st_same {s : ByteArray} {q : PS} {has : Bool} {p c : Nat} {l : List SMt} (hp : p ≤ s.size) (hc : c ≤ p) : SameST s (S0 s p c).2 (stp s q has p c l) (stT q has l (S0 s p c).1 (S0 s p c).2) := by
  cases q with
  | opn =>
    show SameST s _ (ofSR l (stOpn s p c)) _
    unfold stOpn
    cases hs : sc s p c with
    | bad => rw [s0_bad hs]; trivial
    | eof u v => rw [s0_eof hs]; exact ⟨rfl, rfl, rfl, s0_eof hs, hp, hc⟩
    | tok k a e ca ce =>
      have he := s0_tok hp hc hs
      have hl := sc_le hp hc hs
      by_cases hk : k = 1
      · subst hk
        rw [he]
        exact opn2_same (has := true) hl.2.1 hl.2.2
      · have h2 := opn2_same (s := s) (has := false) (l := l) hp hc
        rw [he] at h2
        rw [he]
        dsimp only [stT]
        rw [if_neg hk, if_neg hk]
        exact h2
  | cls =>
    show SameST s _ (ofSR l (stCls s has p c)) _
    unfold stCls
    cases hs : sc s p c with
    | bad => rw [s0_bad hs]; cases has <;> first | trivial | exact ⟨rfl, rfl, rfl, s0_bad hs, hp, hc⟩
    | eof u v => rw [s0_eof hs]; cases has <;> first | trivial | exact ⟨rfl, rfl, rfl, s0_eof hs, hp, hc⟩
    | tok k a e ca ce =>
      have he := s0_tok hp hc hs
      have hl := sc_le hp hc hs
      rw [he]
      by_cases hk : k = 2
      · subst hk
        cases has
        · trivial
        · exact ⟨rfl, rfl, rfl, rfl, hl.2.1, hl.2.2⟩
      · dsimp only [stT]
        rw [if_neg hk, if_neg hk]
        cases has
        · exact ⟨rfl, rfl, rfl, he, hp, hc⟩
        · trivial
  | emt =>
    show SameST s _ (ofSR l (stEmt s has p c)) _
    unfold stEmt
    cases hs : sc s p c with
    | bad => rw [s0_bad hs]; trivial
    | eof u v => rw [s0_eof hs]; exact ⟨rfl, rfl, rfl, s0_eof hs, hp, hc⟩
    | tok k a e ca ce =>
      have he := s0_tok hp hc hs
      rw [he]
      dsimp only [stT]
      by_cases h3 : k = 3
      · rw [if_pos h3, if_pos h3]; exact ⟨rfl, rfl, rfl, he, hp, hc⟩
      · rw [if_neg h3, if_neg h3]
        by_cases h2 : k = 2
        · rw [if_pos h2, if_pos h2]; exact ⟨rfl, rfl, rfl, he, hp, hc⟩
        · rw [if_neg h2, if_neg h2]; trivial
  | com =>
    show SameST s _ (ofSR l (stCom s has p c)) _
    unfold stCom
    cases hs : sc s p c with
    | bad => rw [s0_bad hs]; trivial
    | eof u v => rw [s0_eof hs]; trivial
    | tok k a e ca ce =>
      have he := s0_tok hp hc hs
      have hl := sc_le hp hc hs
      rw [he]
      dsimp only [stT]
      by_cases h3 : k = 3
      · rw [if_pos h3, if_pos h3]
        cases hs2 : sc s e ce with
        | bad => rw [s0_bad hs2]; trivial
        | eof u v => rw [s0_eof hs2]; exact ⟨rfl, rfl, rfl, s0_eof hs2, hl.2.1, hl.2.2⟩
        | tok k2 a2 e2 ca2 ce2 =>
          have he2 := s0_tok hl.2.1 hl.2.2 hs2
          rw [he2]
          dsimp only
          by_cases h2 : k2 = 2
          · rw [if_pos h2, if_pos h2]; exact ⟨rfl, rfl, rfl, he2, hl.2.1, hl.2.2⟩
          · rw [if_neg h2, if_neg h2]
            by_cases h9 : k2 = 9 ∨ k2 = 8
            · rw [if_pos h9, if_pos h9]; exact ⟨rfl, rfl, rfl, he2, hl.2.1, hl.2.2⟩
            · rw [if_neg h9, if_neg h9]; trivial
      · rw [if_neg h3, if_neg h3]; trivial
  | eof =>
    show SameST s _ (ofSR l (stEof s p c)) _
    unfold stEof
    cases hs : sc s p c with
    | bad => rw [s0_bad hs]; trivial
    | eof u v => rw [s0_eof hs]; exact rfl
    | tok k a e ca ce => rw [s0_tok hp hc hs]; trivial
  | mat =>
    have key : SameST s (S0 s p c).2 (match stMat s p c with | none => .fail | some u => .next .emt has u.2.1 u.2.2 (l ++ [u.1])) (stT .mat has l (S0 s p c).1 (S0 s p c).2) := by
      unfold stMat
      cases hs : sc s p c with
      | bad => rw [s0_bad hs]; trivial
      | eof u v => rw [s0_eof hs]; trivial
      | tok k a e ca ce =>
        have he := s0_tok hp hc hs
        have hl := sc_le hp hc hs
        rw [he]
        dsimp only
        unfold stMa2
        cases hs2 : sc s e ce with
        | bad =>
          rw [s0_bad hs2]
          refine same_none s _ has l _ ?_
          repeat' split
          all_goals first | rfl | (exfalso; rename_i h _; simp at h; done) | (exfalso; simp_all; done)
        | eof u v =>
          rw [s0_eof hs2]
          refine same_none s _ has l _ ?_
          repeat' split
          all_goals first | rfl | (exfalso; rename_i h _; simp at h; done) | (exfalso; simp_all; done)
        | tok k2 a2 e2 ca2 ce2 =>
          have he2 := s0_tok hl.2.1 hl.2.2 hs2
          have hl2 := sc_le hl.2.1 hl.2.2 hs2
          rw [he2]
          dsimp only
          unfold stMa3
          cases hs3 : sc s e2 ce2 with
          | bad =>
            rw [s0_bad hs3]
            refine same_none s _ has l _ ?_
            repeat' split
            all_goals first | rfl | (exfalso; rename_i h _; simp at h; done) | (exfalso; simp_all; done)
          | eof u v =>
            rw [s0_eof hs3]
            refine same_none s _ has l _ ?_
            repeat' split
            all_goals first | rfl | (exfalso; rename_i h _; simp at h; done) | (exfalso; simp_all; done)
          | tok k3 a3 e3 ca3 ce3 =>
            have he3 := s0_tok hl2.2.1 hl2.2.2 hs3
            have hl3 := sc_le hl2.2.1 hl2.2.2 hs3
            rw [he3]
            dsimp only [stT, mkT]
            by_cases h1 : k = 8 ∨ k = 9
            · rw [if_pos h1, if_pos h1]
              cases unqT k (s.extract a e) with
              | none => trivial
              | some n =>
                dsimp only
                by_cases h2 : k2 = 4 ∨ k2 = 5 ∨ k2 = 6 ∨ k2 = 7
                · rw [if_pos h2, if_pos h2]
                  by_cases h3 : k3 = 9 ∨ k3 = 8
                  · rw [if_pos h3, if_pos h3]
                    cases unqT k3 (s.extract a3 e3) with
                    | none => trivial
                    | some v => exact ⟨rfl, rfl, rfl, rfl, hl3.2.1, hl3.2.2⟩
                  · rw [if_neg h3, if_neg h3]; trivial
                · rw [if_neg h2, if_neg h2]; trivial
            · rw [if_neg h1, if_neg h1]; trivial
    exact key
theorem run_same {s : ByteArray} {f : Nat} : ∀ {q : PS} {has : Bool} {p c : Nat} {l : List SMt}, p ≤ s.size → c ≤ p → run s f q has p c l = runT (S0 s p c).2 f q has (S0 s p c).1 l := by
  induction f with
  | zero => intro q has p c l _ _; rfl
  | succ f ih =>
    intro q has p c l hp hc
    have h := st_same (s := s) (q := q) (has := has) (l := l) hp hc
    unfold run runT
    revert h
    cases stp s q has p c l with
    | fail => cases stT q has l (S0 s p c).1 (S0 s p c).2 <;> first | (intro _; rfl) | (intro h; exact h.elim)
    | done l2 => cases stT q has l (S0 s p c).1 (S0 s p c).2 <;> first | (intro h; exact h.elim) | (intro h; obtain rfl := h; rfl)
    | next q2 has2 p2 c2 l2 =>
      cases stT q has l (S0 s p c).1 (S0 s p c).2 with
      | fail => intro h; exact h.elim
      | done l3 => intro h; exact h.elim
      | next q3 has3 ts l3 =>
        intro h
        obtain ⟨rfl, rfl, rfl, he, h1, h2⟩ := h
        dsimp only
        rw [ih h1 h2, he]
theorem parseL_eq (s : ByteArray) : parseL s = parseT (S0 s 0 0) := by
  unfold parseL parseT
  rw [run_same (Nat.zero_le _) (Nat.le_refl _)]
  have hl : (S0 s 0 0).1.length ≤ s.size - 0 := strm_len ⟨by omega, by omega, by omega⟩
  obtain ⟨g, hg⟩ : ∃ g, 8 * s.size + 7 = 8 * (S0 s 0 0).1.length + 7 + g := ⟨8 * s.size + 7 - (8 * (S0 s 0 0).1.length + 7), by omega⟩
  rw [hg, runT_enough _ (by simp [PS.rank])]
end Go.Proofs.YtmjoebnphacadaaGreatDoor.Lex
-- printed by this project's own program wip/tools/mkprint.py (the kit's print.py with hand-proved contracts put in)
namespace Go.Proofs.YtmjoebnphacadaaGreatDoor.Q
open Go.RowKit Go.Proofs.YtmjoebnphacadaaGreatDoorW.PrintWords Go.Proofs.YtmjoebnphacadaaGreatDoorW.PrintLast Go.Proofs.YtmjoebnphacadaaGreatDoorW.PrintMore
attribute [local go_sem] max2_int min2_int max_two min_two max_three min_three max_four min_four   -- for this text's walks alone
set_option linter.unusedVariables false
set_option linter.unusedSimpArgs false
/-! ### impl_ParseMatchers: function 6 -/
-- a contract that was proved by hand
noncomputable def impl_ParseMatchers.f (a0 : ByteArray) : Option (List S33 × Bool) := if a0.size ≤ 1000000 then some (Go.Proofs.YtmjoebnphacadaaGreatDoor.Lex.pmF a0) else none
theorem impl_ParseMatchers.calls (a0 : ByteArray) (r1 : List S33) (r2 : Bool) (w : World) (hT_ : Go.Proofs.YtmjoebnphacadaaGreatDoor.Lex.ETx w) (h : impl_ParseMatchers.f a0 = some (r1, r2)) :
    Calls Tryz.prog 6 #[.string a0] w fun e w' => ∃ v0_ : Value, e = .returned (.tuple #[v0_, .bool r2]) ∧ Kd.R k33 33 w' w.heap.size (fun _ => True) v0_ r1 ∧ Below w.heap.size w w' := by
  unfold impl_ParseMatchers.f at h
  split at h
  · rename_i hs
    obtain ⟨ea, hT⟩ := hT_
    have hq := Option.some.inj h
    have := Go.Proofs.YtmjoebnphacadaaGreatDoor.Lex.parseMatchers_calls hT hs
    rw [hq] at this
    exact this
  · exact nomatch h
end Go.Proofs.YtmjoebnphacadaaGreatDoor.Q
-- printed by this project's own program wip/tools/mkprint.py (the kit's print.py with hand-proved contracts put in)
namespace Go.Proofs.YtmjoebnphacadaaGreatDoor.Q
open Go.RowKit Go.Proofs.YtmjoebnphacadaaGreatDoorW.PrintWords Go.Proofs.YtmjoebnphacadaaGreatDoorW.PrintLast Go.Proofs.YtmjoebnphacadaaGreatDoorW.PrintMore
attribute [local go_sem] max2_int min2_int max_two min_two max_three min_three max_four min_four   -- for this text's walks alone
set_option linter.unusedVariables false
set_option linter.unusedSimpArgs false
theorem eqA33 (d : Nat) (w : World) (x0 y0 : Int) (x1 y1 : ByteArray) (x2 y2 : ByteArray) :
    (Op.equalIn (d + 2) 33 (.agg #[.int .i64 x0, .string x1, .string x2]) (.agg #[.int .i64 y0, .string y1, .string y2])).run Tryz.prog w = .ok (x0 == y0 && (x1.toList == y1.toList && (x2.toList == y2.toList))) w := by
  refine eqA_of Tryz.underlying33 (by kernel_rfl) ?_
  refine eqf_cons (by rfl) (by go_simp; rfl) (by go_simp; rfl) (by go_simp) ?_
  refine eqf_cons (by rfl) (by go_simp; rfl) (by go_simp; rfl) (by go_simp) ?_
  exact eqf_last (by rfl) (by go_simp; rfl) (by go_simp; rfl) (by go_simp)
end Go.Proofs.YtmjoebnphacadaaGreatDoor.Q
-- printed by this project's own program wip/tools/mkprint.py (the kit's print.py with hand-proved contracts put in)
namespace Go.Proofs.YtmjoebnphacadaaGreatDoor.Q
open Go.RowKit Go.Proofs.YtmjoebnphacadaaGreatDoorW.PrintWords Go.Proofs.YtmjoebnphacadaaGreatDoorW.PrintLast Go.Proofs.YtmjoebnphacadaaGreatDoorW.PrintMore
attribute [local go_sem] max2_int min2_int max_two min_two max_three min_three max_four min_four   -- for this text's walks alone
set_option linter.unusedVariables false
set_option linter.unusedSimpArgs false
attribute [local go_sem high] eqA33
/-! ### laws_one: function 4 -/
noncomputable def laws_one.f  : Option (Bool) := (impl_ParseMatchers.f (⟨#[123, 97, 61, 34, 98, 34, 125]⟩ : ByteArray)).bind fun bt101 => (if bt101.2 = true then (if (bt101.1.length : Int) = 1 then (if 0 < (bt101.1.length : Int) then (some (((rd_T33 bt101.1 0).f0) == 0 && ((((rd_T33 bt101.1 0).f1).toList) == ([97] : List UInt8) && ((((rd_T33 bt101.1 0).f2).toList) == ([98] : List UInt8))))) else (none)) else (some false)) else (some false))
set_option maxHeartbeats 8000000 in
set_option maxRecDepth 100000 in
theorem laws_one.calls  (r : Bool) (w : World) (hT_ : Go.Proofs.YtmjoebnphacadaaGreatDoor.Lex.ETx w) (h : laws_one.f  = some r) :
    Calls Tryz.prog 4 #[] w fun e w' => e = .returned (.bool r) ∧ Below w.heap.size w w' := by
  have HTW_ := Aside0.mk hT_
  clear hT_
  have hu33 := Tryz.underlying33
  have HB := Aside0.mk (Below.refl w.heap.size w)
  have H : ((impl_ParseMatchers.f (⟨#[123, 97, 61, 34, 98, 34, 125]⟩ : ByteArray)).bind fun bt101 => (if bt101.2 = true then (if (bt101.1.length : Int) = 1 then (if 0 < (bt101.1.length : Int) then (some (((rd_T33 bt101.1 0).f0) == 0 && ((((rd_T33 bt101.1 0).f1).toList) == ([97] : List UInt8) && ((((rd_T33 bt101.1 0).f2).toList) == ([98] : List UInt8))))) else (none)) else (some false)) else (some false))) = some r := h
  clear h
  replace H := Option.bind_eq_some_iff.mp H
  obtain ⟨⟨t101, t102⟩, A10, H⟩ := H
  replace H : (if t102 = true then (if (t101.length : Int) = 1 then (if 0 < (t101.length : Int) then (some (((rd_T33 t101 0).f0) == 0 && ((((rd_T33 t101 0).f1).toList) == ([97] : List UInt8) && ((((rd_T33 t101 0).f2).toList) == ([98] : List UInt8))))) else (none)) else (some false)) else (some false)) = some r := H
  have A1 := Aside0.mk A10
  clear A10
  by_cases c2 : t102 = true
  · subst c2
    have H1 : (if (t101.length : Int) = 1 then (if 0 < (t101.length : Int) then (some (((rd_T33 t101 0).f0) == 0 && ((((rd_T33 t101 0).f1).toList) == ([97] : List UInt8) && ((((rd_T33 t101 0).f2).toList) == ([98] : List UInt8))))) else (none)) else (some false)) = some r := by rw [if_pos rfl] at H; exact H
    clear H
    have H := H1
    clear H1
    by_cases c3 : (t101.length : Int) = 1
    · rw [if_pos c3] at H
      have c3b0 : ((t101.length : Int) == 1) = true := beq_iff_eq.mpr c3
      have c3b1 : ((t101.length : Int) != 1) = false := bne_eq_false_iff_eq.mpr c3
      clear c3
      by_cases c4 : 0 < (t101.length : Int)
      · rw [if_pos c4] at H
        have c4b0 : decide (0 < (t101.length : Int)) = true := decide_eq_true c4
        have c4b1 : decide (0 < t101.length) = true := decide_eq_true (by omega)
        clear c4
        obtain rfl := Option.some.inj H
        go_enter Tryz.func4, Tryz.ntmps4
        go_wp2_with (first | ((with_reducible refine gate_callee (f := 6) rfl ?_); refine goesL_ (some 4) rfl rfl Tryz.func6 (by kernel_rfl) rfl #[.string (⟨#[123, 97, 61, 34, 98, 34, 125]⟩ : ByteArray)] rfl (by (try simp only [List.map_toArray, List.map_cons, List.map_nil]); first | done | rfl | (simp only [List.length_drop, List.length_take]; rfl)) ?_; (with_reducible refine (impl_ParseMatchers.calls (⟨#[123, 97, 61, 34, 98, 34, 125]⟩ : ByteArray) t101 true _ ?side1 A1.out).mono ?_); (case side1 => exact Go.Proofs.YtmjoebnphacadaaGreatDoor.Lex.ETx.below HTW_.out (by repeat (first | (with_reducible first | exact HB.out | apply below_alloc | apply pw_below_drewN | apply below_drew1) | exact HB.out))); rintro e w5 ⟨v103, rfl, ho0, hb⟩; refine ⟨_, rfl, ?_⟩; have n0_ := Aside0.mk (Kd.R_lower ho0 (below_size (by repeat (first | (with_reducible first | exact HB.out | apply below_alloc | apply pw_below_drewN | apply below_drew1) | exact HB.out)))); have n1_ := Aside0.mk (below_step (by repeat (first | (with_reducible first | exact HB.out | apply below_alloc | apply pw_below_drewN | apply below_drew1) | exact HB.out)) hb); clear HB; have HO104 := n0_; have HB := n1_; clear n0_ n1_; (try clear hb); (try clear hb2); (try clear hk); (try clear hi); (try clear ho0); obtain ⟨Ao6, co6, eo6⟩ := Kd.R_slice HO104.out; subst eo6; have p105 : 0 ≤ (0 : Int) := (by omega); have q105 : 0 < (t101.length : Int) := of_decide_eq_true (by first | (with_reducible assumption) | assumption); obtain ⟨ad105, e105, hx105_0, hx105_1, hx105_2⟩ := at_T33 (Kd.R_reads' HO104.out).2.2 0 p105 q105; cases e105; have qi105 : (0 < t101.length) = True := eq_true (by omega); (try rw [show ((0 : Int)).toNat = 0 from rfl] at hx105_0); (try rw [show 0 * 3 = 0 from rfl] at hx105_0); (try rw [Addr.add_zero'] at hx105_0); (try rw [show ((0 : Int)).toNat = 0 from rfl] at hx105_1); (try rw [show 0 * 3 = 0 from rfl] at hx105_1); (try rw [Addr.add_zero'] at hx105_1); (try rw [show ((0 : Int)).toNat = 0 from rfl] at hx105_2); (try rw [show 0 * 3 = 0 from rfl] at hx105_2); (try rw [Addr.add_zero'] at hx105_2); replace p105 := eq_true p105; replace q105 := eq_true q105))
        go_ret
        exact ⟨by first | rfl | (simp [errW_none, errW_some] <;> rfl) | (simp [*, errW_none, errW_some] <;> rfl), by repeat (first | (with_reducible first | exact HB.out | apply below_alloc | apply pw_below_drewN | apply below_drew1) | exact HB.out)⟩
      · rw [if_neg c4] at H
        exact absurd H (by simp)
    · rw [if_neg c3] at H
      have c3b0 : ((t101.length : Int) == 1) = false := beq_eq_false_iff_ne.mpr c3
      have c3b1 : ((t101.length : Int) != 1) = true := bne_iff_ne.mpr c3
      obtain rfl := Option.some.inj H
      go_enter Tryz.func4, Tryz.ntmps4
      go_wp2_with (first | ((with_reducible refine gate_callee (f := 6) rfl ?_); refine goesL_ (some 4) rfl rfl Tryz.func6 (by kernel_rfl) rfl #[.string (⟨#[123, 97, 61, 34, 98, 34, 125]⟩ : ByteArray)] rfl (by (try simp only [List.map_toArray, List.map_cons, List.map_nil]); first | done | rfl | (simp only [List.length_drop, List.length_take]; rfl)) ?_; (with_reducible refine (impl_ParseMatchers.calls (⟨#[123, 97, 61, 34, 98, 34, 125]⟩ : ByteArray) t101 true _ ?side1 A1.out).mono ?_); (case side1 => exact Go.Proofs.YtmjoebnphacadaaGreatDoor.Lex.ETx.below HTW_.out (by repeat (first | (with_reducible first | exact HB.out | apply below_alloc | apply pw_below_drewN | apply below_drew1) | exact HB.out))); rintro e w7 ⟨v103, rfl, ho0, hb⟩; refine ⟨_, rfl, ?_⟩; have n0_ := Aside0.mk (Kd.R_lower ho0 (below_size (by repeat (first | (with_reducible first | exact HB.out | apply below_alloc | apply pw_below_drewN | apply below_drew1) | exact HB.out)))); have n1_ := Aside0.mk (below_step (by repeat (first | (with_reducible first | exact HB.out | apply below_alloc | apply pw_below_drewN | apply below_drew1) | exact HB.out)) hb); clear HB; have HO104 := n0_; have HB := n1_; clear n0_ n1_; (try clear hb); (try clear hb2); (try clear hk); (try clear hi); (try clear ho0); obtain ⟨Ao8, co8, eo8⟩ := Kd.R_slice HO104.out; subst eo8))
      go_ret
      exact ⟨by first | rfl | (simp [errW_none, errW_some] <;> rfl) | (simp [*, errW_none, errW_some] <;> rfl), by repeat (first | (with_reducible first | exact HB.out | apply below_alloc | apply pw_below_drewN | apply below_drew1) | exact HB.out)⟩
  · replace c2 := Bool.eq_false_iff.mpr c2
    subst c2
    have H1 : (some false) = some r := by rw [if_neg (show ¬ (false = true) by decide)] at H; exact H
    clear H
    have H := H1
    clear H1
    obtain rfl := Option.some.inj H
    go_enter Tryz.func4, Tryz.ntmps4
    go_wp2_with (first | ((with_reducible refine gate_callee (f := 6) rfl ?_); refine goesL_ (some 4) rfl rfl Tryz.func6 (by kernel_rfl) rfl #[.string (⟨#[123, 97, 61, 34, 98, 34, 125]⟩ : ByteArray)] rfl (by (try simp only [List.map_toArray, List.map_cons, List.map_nil]); first | done | rfl | (simp only [List.length_drop, List.length_take]; rfl)) ?_; (with_reducible refine (impl_ParseMatchers.calls (⟨#[123, 97, 61, 34, 98, 34, 125]⟩ : ByteArray) t101 false _ ?side1 A1.out).mono ?_); (case side1 => exact Go.Proofs.YtmjoebnphacadaaGreatDoor.Lex.ETx.below HTW_.out (by repeat (first | (with_reducible first | exact HB.out | apply below_alloc | apply pw_below_drewN | apply below_drew1) | exact HB.out))); rintro e w9 ⟨v103, rfl, ho0, hb⟩; refine ⟨_, rfl, ?_⟩; have n0_ := Aside0.mk (Kd.R_lower ho0 (below_size (by repeat (first | (with_reducible first | exact HB.out | apply below_alloc | apply pw_below_drewN | apply below_drew1) | exact HB.out)))); have n1_ := Aside0.mk (below_step (by repeat (first | (with_reducible first | exact HB.out | apply below_alloc | apply pw_below_drewN | apply below_drew1) | exact HB.out)) hb); clear HB; have HO104 := n0_; have HB := n1_; clear n0_ n1_; (try clear hb); (try clear hb2); (try clear hk); (try clear hi); (try clear ho0)))
    go_ret
    exact ⟨by first | rfl | (simp [errW_none, errW_some] <;> rfl) | (simp [*, errW_none, errW_some] <;> rfl), by repeat (first | (with_reducible first | exact HB.out | apply below_alloc | apply pw_below_drewN | apply below_drew1) | exact HB.out)⟩
end Go.Proofs.YtmjoebnphacadaaGreatDoor.Q
-- printed by this project's own program wip/tools/mkprint.py (the kit's print.py with hand-proved contracts put in)
namespace Go.Proofs.YtmjoebnphacadaaGreatDoor.Q
open Go.RowKit Go.Proofs.YtmjoebnphacadaaGreatDoorW.PrintWords Go.Proofs.YtmjoebnphacadaaGreatDoorW.PrintLast Go.Proofs.YtmjoebnphacadaaGreatDoorW.PrintMore
attribute [local go_sem] max2_int min2_int max_two min_two max_three min_three max_four min_four   -- for this text's walks alone
set_option linter.unusedVariables false
set_option linter.unusedSimpArgs false
/-! ### laws_has: function 5 -/
noncomputable def laws_has.l0 : Nat → ByteArray → Int → Int → Option (Bool)
  | 0, _, _, _ => none
  | k + 1, x0, x1, x5 => if x5 < (x0.size : Int) then (if 0 ≤ x5 then (if (bt x0 x5) = x1 then (some true) else (laws_has.l0 k x0 x1 (wrap64 (x5 + 1)))) else (none)) else (some false)
noncomputable def laws_has.f (k : Nat) (a0 : ByteArray) (a1 : Int) : Option (Bool) := laws_has.l0 k a0 a1 0
theorem laws_has.mono_l : ∀ k, (∀ y0 y1 y2, LeO (laws_has.l0 k y0 y1 y2) (laws_has.l0 (k + 1) y0 y1 y2))
  | 0 => fun _ _ _ r h => by simp [laws_has.l0] at h
  | k + 1 => by
    have ih0 := laws_has.mono_l k
    · intro y0 y1 y2
      unfold laws_has.l0
      repeat' first
      | (with_reducible exact ih0 _ _ _)
      | (with_reducible exact LeO.refl _)
      | (with_reducible exact LeO.none _)
      | (with_reducible refine LeO.ite ?_ ?_)
      | (with_reducible refine LeO.bind ?_ (fun _ => ?_))
      | exact ih0 _ _ _
      | exact LeO.none _
      | refine LeO.ite ?_ ?_
      | refine LeO.bind ?_ (fun _ => ?_)
theorem laws_has.mono : ∀ a0 a1 k, LeO (laws_has.f k a0 a1) (laws_has.f (k + 1) a0 a1) := by
  intro a0 a1 k
  have ih0 := laws_has.mono_l k
  unfold laws_has.f
  repeat' first
      | (with_reducible exact ih0 _ _ _)
      | (with_reducible exact LeO.refl _)
      | (with_reducible exact LeO.none _)
      | (with_reducible refine LeO.ite ?_ ?_)
      | (with_reducible refine LeO.bind ?_ (fun _ => ?_))
      | exact ih0 _ _ _
      | exact LeO.none _
      | refine LeO.ite ?_ ?_
      | refine LeO.bind ?_ (fun _ => ?_)
set_option maxHeartbeats 8000000 in
set_option maxRecDepth 100000 in
theorem laws_has.calls (k : Nat) (a0 : ByteArray) (a1 : Int) (r : Bool) (w : World) (h : laws_has.f k a0 a1 = some r) :
    Calls Tryz.prog 5 #[.string a0, .int .u8 a1] w fun e w' => e = .returned (.bool r) ∧ Drawn0 w w' := by
  have H : (laws_has.l0 k a0 a1 0) = some r := h
  clear h
  have H' := Aside0.mk H
  clear H
  go_enter Tryz.func5, Tryz.ntmps5
  go_wp2
  go_loopg [5] k (fun kq v5 w' => ∃ (x5_1 : Int), v5 = .int .i64 x5_1 ∧ Aside0 (laws_has.l0 kq a0 a1 x5_1 = some r) ∧ Aside0 (kq ≤ k) ∧ Drawn0 w w')
  case atStart => exact ⟨(0), (by first | rfl | (simp; done) | (simp [*]; done)), H', ⟨Nat.le_refl _⟩, by repeat (first | exact Drawn0.refl _ | apply Drawn0.step)⟩
  case round =>
    clear H'
    try clear p2
    obtain ⟨x5_1, rfl, HA, HK1, ⟨m1, rfl⟩⟩ := hrel
    cases gk with
    | zero => exact absurd HA.out (by simp [laws_has.l0])
    | succ k1 =>
      have H := HA.out
      clear HA
      simp only [laws_has.l0] at H
      by_cases c3 : x5_1 < (a0.size : Int)
      · rw [if_pos c3] at H
        have c3b0 : decide (x5_1 < (a0.size : Int)) = true := decide_eq_true c3
        clear c3
        by_cases c4 : 0 ≤ x5_1
        · rw [if_pos c4] at H
          have c4b0 : decide (0 ≤ x5_1) = true := decide_eq_true c4
          clear c4
          by_cases c6 : (bt a0 x5_1) = a1
          · rw [if_pos c6] at H
            have c6b0 : ((bt a0 x5_1) == a1) = true := beq_iff_eq.mpr c6
            have c6b1 : ((bt a0 x5_1) != a1) = false := bne_eq_false_iff_eq.mpr c6
            clear c6
            obtain rfl := Option.some.inj H
            have p5 : 0 ≤ (x5_1 : Int) := of_decide_eq_true (by first | (with_reducible assumption) | assumption)
            have q5 : x5_1 < (a0.size : Int) := of_decide_eq_true (by first | (with_reducible assumption) | assumption)
            have hx5 := bt_at a0 x5_1
            replace p5 := eq_true p5
            replace q5 := eq_true q5
            go_wp2
            go_ret
            exact ⟨by first | rfl | (simp; done) | (simp [*]; done), by repeat (first | exact Drawn0.refl _ | apply Drawn0.step)⟩
          · rw [if_neg c6] at H
            have c6b0 : ((bt a0 x5_1) == a1) = false := beq_eq_false_iff_ne.mpr c6
            have c6b1 : ((bt a0 x5_1) != a1) = true := bne_iff_ne.mpr c6
            have H' := Aside0.mk H
            clear H
            have p5 : 0 ≤ (x5_1 : Int) := of_decide_eq_true (by first | (with_reducible assumption) | assumption)
            have q5 : x5_1 < (a0.size : Int) := of_decide_eq_true (by first | (with_reducible assumption) | assumption)
            have hx5 := bt_at a0 x5_1
            replace p5 := eq_true p5
            replace q5 := eq_true q5
            go_wp2
            go_roundg k1
            case measure => have := HK1.out; omega
            case rel => exact ⟨(wrap64 (x5_1 + 1)), (by first | rfl | (simp; done) | (simp [*]; done)), H', ⟨by have := HK1.out; omega⟩, by repeat (first | exact Drawn0.refl _ | apply Drawn0.step)⟩
        · rw [if_neg c4] at H
          exact absurd H (by simp)
      · rw [if_neg c3] at H
        have c3b0 : decide (x5_1 < (a0.size : Int)) = false := decide_eq_false c3
        clear c3
        obtain rfl := Option.some.inj H
        go_wp2
        go_ret
        exact ⟨by first | rfl | (simp; done) | (simp [*]; done), by repeat (first | exact Drawn0.refl _ | apply Drawn0.step)⟩
end Go.Proofs.YtmjoebnphacadaaGreatDoor.Q
-- printed by this project's own program wip/tools/mkprint.py (the kit's print.py with hand-proved contracts put in)
namespace Go.Proofs.YtmjoebnphacadaaGreatDoor.Q
open Go.RowKit Go.Proofs.YtmjoebnphacadaaGreatDoorW.PrintWords Go.Proofs.YtmjoebnphacadaaGreatDoorW.PrintLast Go.Proofs.YtmjoebnphacadaaGreatDoorW.PrintMore
attribute [local go_sem] max2_int min2_int max_two min_two max_three min_three max_four min_four   -- for this text's walks alone
set_option linter.unusedVariables false
set_option linter.unusedSimpArgs false
/-! ### spec_within: function 29 -/
mutual
noncomputable def spec_within.l0 : Nat → ByteArray → List Int → Int → Option (ByteArray × Int)
  | 0, _, _, _ => none
  | k + 1, x0, x4, x5 => if x5 < (wrap64 ((x0.size : Int) - 1)) then (if 0 ≤ x5 then (if x5 < (x0.size : Int) then (if (bt x0 x5) < 32 then (spec_within.j1 k x0 x4 x5 (bt x0 x5) true) else (spec_within.j1 k x0 x4 x5 (bt x0 x5) ((bt x0 x5) == 127))) else (none)) else (none)) else (some (strOfNums x4, 1))
noncomputable def spec_within.j1 : Nat → ByteArray → List Int → Int → Int → Bool → Option (ByteArray × Int)
  | 0, _, _, _, _, _ => none
  | k + 1, x0, x4, x5, x6, x22 => if x22 = true then (some ((⟨#[]⟩ : ByteArray), 2)) else (if x6 = 92 then (if 0 ≤ (wrap64 (x5 + 1)) then (if (wrap64 (x5 + 1)) < (x0.size : Int) then (if (bt x0 (wrap64 (x5 + 1))) = 110 then (if x4.length < 140737488355328 then (spec_within.l0 k x0 (x4 ++ [10]) (wrap64 ((wrap64 (x5 + 1)) + 1))) else (none)) else (if (bt x0 (wrap64 (x5 + 1))) = 34 then (if x4.length < 140737488355328 then (spec_within.l0 k x0 (x4 ++ [bt x0 (wrap64 (x5 + 1))]) (wrap64 ((wrap64 (x5 + 1)) + 1))) else (none)) else (if (bt x0 (wrap64 (x5 + 1))) = 92 then (if x4.length < 140737488355328 then (spec_within.l0 k x0 (x4 ++ [bt x0 (wrap64 (x5 + 1))]) (wrap64 ((wrap64 (x5 + 1)) + 1))) else (none)) else (some ((⟨#[]⟩ : ByteArray), 2))))) else (none)) else (none)) else (if x4.length < 140737488355328 then (spec_within.l0 k x0 (x4 ++ [x6]) (wrap64 (x5 + 1))) else (none)))
end
noncomputable def spec_within.f (k : Nat) (a0 : ByteArray) : Option (ByteArray × Int) := spec_within.l0 k a0 ([] : List Int) 1
theorem spec_within.mono_l : ∀ k, (∀ y0 y1 y2, LeO (spec_within.l0 k y0 y1 y2) (spec_within.l0 (k + 1) y0 y1 y2)) ∧ (∀ y0 y1 y2 y3 y4, LeO (spec_within.j1 k y0 y1 y2 y3 y4) (spec_within.j1 (k + 1) y0 y1 y2 y3 y4))
  | 0 => ⟨fun _ _ _ r h => by simp [spec_within.l0] at h, fun _ _ _ _ _ r h => by simp [spec_within.j1] at h⟩
  | k + 1 => by
    obtain ⟨ih0, ih1⟩ := spec_within.mono_l k
    refine ⟨?_, ?_⟩
    · intro y0 y1 y2
      unfold spec_within.l0
      repeat' first
      | (with_reducible exact ih0 _ _ _)
      | (with_reducible exact ih1 _ _ _ _ _)
      | (with_reducible exact LeO.refl _)
      | (with_reducible exact LeO.none _)
      | (with_reducible refine LeO.ite ?_ ?_)
      | (with_reducible refine LeO.bind ?_ (fun _ => ?_))
      | exact ih0 _ _ _
      | exact ih1 _ _ _ _ _
      | exact LeO.none _
      | refine LeO.ite ?_ ?_
      | refine LeO.bind ?_ (fun _ => ?_)
    · intro y0 y1 y2 y3 y4
      unfold spec_within.j1
      repeat' first
      | (with_reducible exact ih0 _ _ _)
      | (with_reducible exact ih1 _ _ _ _ _)
      | (with_reducible exact LeO.refl _)
      | (with_reducible exact LeO.none _)
      | (with_reducible refine LeO.ite ?_ ?_)
      | (with_reducible refine LeO.bind ?_ (fun _ => ?_))
      | exact ih0 _ _ _
      | exact ih1 _ _ _ _ _
      | exact LeO.none _
      | refine LeO.ite ?_ ?_
      | refine LeO.bind ?_ (fun _ => ?_)
theorem spec_within.mono : ∀ a0 k, LeO (spec_within.f k a0) (spec_within.f (k + 1) a0) := by
  intro a0 k
  obtain ⟨ih0, ih1⟩ := spec_within.mono_l k
  unfold spec_within.f
  repeat' first
      | (with_reducible exact ih0 _ _ _)
      | (with_reducible exact ih1 _ _ _ _ _)
      | (with_reducible exact LeO.refl _)
      | (with_reducible exact LeO.none _)
      | (with_reducible refine LeO.ite ?_ ?_)
      | (with_reducible refine LeO.bind ?_ (fun _ => ?_))
      | exact ih0 _ _ _
      | exact ih1 _ _ _ _ _
      | exact LeO.none _
      | refine LeO.ite ?_ ?_
      | refine LeO.bind ?_ (fun _ => ?_)
set_option maxHeartbeats 8000000 in
set_option maxRecDepth 100000 in
theorem spec_within.calls (k : Nat) (a0 : ByteArray) (r1 : ByteArray) (r2 : Int) (w : World) (h : spec_within.f k a0 = some (r1, r2)) :
    Calls Tryz.prog 29 #[.string a0] w fun e w' => e = .returned (.tuple #[.string r1, .int .i64 r2]) ∧ Below w.heap.size w w' := by
  have HB := Aside0.mk (Below.refl w.heap.size w)
  have H : (spec_within.l0 k a0 ([] : List Int) 1) = some (r1, r2) := h
  clear h
  have H' := Aside0.mk H
  clear H
  go_enter Tryz.func29, Tryz.ntmps29
  go_wp2
  go_loopg [4, 5] k (fun kq v4 v5 w' => ∃ (x4_1 : List Int) (x5_1 : Int), v5 = .int .i64 x5_1 ∧ Aside0 (spec_within.l0 kq a0 x4_1 x5_1 = some (r1, r2)) ∧ Aside0 (kq ≤ k) ∧ Aside0 (Kd.R (Kd.int .u8) 5 w' w.heap.size (fun _ => True) v4 x4_1) ∧ Aside0 (Below w.heap.size w w'))
  case atStart => exact ⟨(([] : List Int)), (1), (by first | rfl | (simp; done) | (simp [*]; done)), H', ⟨Nat.le_refl _⟩, ⟨by first | exact Kd.R_nil _ _ _ _ _ | exact Kd.N_nil _ _ _ _ _ | exact Kd.V_nil _ _ _ _ _ | exact Kd.Q_nil _ _ _ _ _ | exact Kd.S_nil _ _ _ _ _⟩, ⟨by repeat (first | (with_reducible first | exact HB.out | apply below_alloc | apply pw_below_drewN | apply below_drew1) | exact HB.out)⟩⟩
  case round =>
    clear H'
    obtain ⟨x4_1, x5_1, rfl, HA, HK1, HO_4, HB⟩ := hrel
    cases gk with
    | zero => exact absurd HA.out (by simp [spec_within.l0])
    | succ k1 =>
      have H := HA.out
      clear HA
      simp only [spec_within.l0] at H
      by_cases c2 : x5_1 < (wrap64 ((a0.size : Int) - 1))
      · rw [if_pos c2] at H
        have c2b0 : decide (x5_1 < (wrap64 ((a0.size : Int) - 1))) = true := decide_eq_true c2
        clear c2
        by_cases c3 : 0 ≤ x5_1
        · rw [if_pos c3] at H
          have c3b0 : decide (0 ≤ x5_1) = true := decide_eq_true c3
          clear c3
          by_cases c4 : x5_1 < (a0.size : Int)
          · rw [if_pos c4] at H
            have c4b0 : decide (x5_1 < (a0.size : Int)) = true := decide_eq_true c4
            clear c4
            have HC6 := Aside0.mk H
            clear H
            have p5 : 0 ≤ (x5_1 : Int) := of_decide_eq_true (by first | (with_reducible assumption) | assumption)
            have q5 : x5_1 < (a0.size : Int) := of_decide_eq_true (by first | (with_reducible assumption) | assumption)
            have hx5 := bt_at a0 x5_1
            replace p5 := eq_true p5
            replace q5 := eq_true q5
            go_upto_region 6 with (fail)
            go_cut [22] (fun v22 wc => ∃ (kq : Nat) (x22_5 : Bool), v22 = .bool x22_5 ∧ Aside0 (spec_within.j1 kq a0 x4_1 x5_1 (bt a0 x5_1) x22_5 = some (r1, r2)) ∧ Aside0 (kq ≤ k1) ∧ Aside0 (Kd.R (Kd.int .u8) 5 wc w.heap.size (fun _ => True) u4 x4_1) ∧ Aside0 (Below w.heap.size w wc))
            case first =>
              have H := HC6.out
              clear HC6
              by_cases c7 : (bt a0 x5_1) < 32
              · rw [if_pos c7] at H
                have c7b0 : decide ((bt a0 x5_1) < 32) = true := decide_eq_true c7
                clear c7
                (first | rw [c7b0] | (simp only [i64_w, i32_w]; rw [c7b0]) | skip)
                have H' := Aside0.mk H
                clear H
                go_wp2
                go_meet
                case rel => exact ⟨_, (true), (by first | rfl | (simp; done) | (simp [*]; done)), H', ⟨by have := HK1.out; first | omega | exact Nat.le_refl _⟩, ⟨by (with_reducible repeat (first | apply Kd.R_alloc | apply Kd.R_drewN | apply Kd.R_drew)); exact HO_4.out⟩, ⟨by repeat (first | (with_reducible first | exact HB.out | apply below_alloc | apply pw_below_drewN | apply below_drew1) | exact HB.out)⟩⟩
              · rw [if_neg c7] at H
                have c7b0 : decide ((bt a0 x5_1) < 32) = false := decide_eq_false c7
                clear c7
                (first | rw [c7b0] | (simp only [i64_w, i32_w]; rw [c7b0]) | skip)
                have H' := Aside0.mk H
                clear H
                go_wp2
                go_meet
                case rel => exact ⟨_, (((bt a0 x5_1) == 127)), (by first | rfl | (simp; done) | (simp [*]; done)), H', ⟨by have := HK1.out; first | omega | exact Nat.le_refl _⟩, ⟨by (with_reducible repeat (first | apply Kd.R_alloc | apply Kd.R_drewN | apply Kd.R_drew)); exact HO_4.out⟩, ⟨by repeat (first | (with_reducible first | exact HB.out | apply below_alloc | apply pw_below_drewN | apply below_drew1) | exact HB.out)⟩⟩
            case rest =>
              clear HC6
              try clear c2
              try clear c2b0
              try clear p2
              try clear c3
              try clear c3b0
              try clear c4
              try clear c4b0
              try clear p5
              try clear q5
              try clear hx5
              try clear p6
              try clear c7
              try clear c7b0
              try clear p5
              try clear q5
              obtain ⟨kq, x22_5, rfl, HA, HJ5, HO_4, HB⟩ := hcut
              cases kq with
              | zero => exact absurd HA.out (by simp [spec_within.j1])
              | succ kj5 =>
                have H := HA.out
                clear HA
                simp only [spec_within.j1] at H
                by_cases c8 : x22_5 = true
                · subst c8
                  have H1 : (some ((⟨#[]⟩ : ByteArray), 2)) = some (r1, r2) := by rw [if_pos rfl] at H; exact H
                  clear H
                  have H := H1
                  clear H1
                  simp only [Option.some.injEq, Prod.mk.injEq] at H
                  obtain ⟨rfl, rfl⟩ := H
                  go_wp2
                  go_ret2
                  exact ⟨by first | rfl | (simp [errW_none, errW_some] <;> rfl) | (simp [*, errW_none, errW_some] <;> rfl), by repeat (first | (with_reducible first | exact HB.out | apply below_alloc | apply pw_below_drewN | apply below_drew1) | exact HB.out)⟩
                · replace c8 := Bool.eq_false_iff.mpr c8
                  subst c8
                  have H1 : (if (bt a0 x5_1) = 92 then (if 0 ≤ (wrap64 (x5_1 + 1)) then (if (wrap64 (x5_1 + 1)) < (a0.size : Int) then (if (bt a0 (wrap64 (x5_1 + 1))) = 110 then (if x4_1.length < 140737488355328 then (spec_within.l0 kj5 a0 (x4_1 ++ [10]) (wrap64 ((wrap64 (x5_1 + 1)) + 1))) else (none)) else (if (bt a0 (wrap64 (x5_1 + 1))) = 34 then (if x4_1.length < 140737488355328 then (spec_within.l0 kj5 a0 (x4_1 ++ [bt a0 (wrap64 (x5_1 + 1))]) (wrap64 ((wrap64 (x5_1 + 1)) + 1))) else (none)) else (if (bt a0 (wrap64 (x5_1 + 1))) = 92 then (if x4_1.length < 140737488355328 then (spec_within.l0 kj5 a0 (x4_1 ++ [bt a0 (wrap64 (x5_1 + 1))]) (wrap64 ((wrap64 (x5_1 + 1)) + 1))) else (none)) else (some ((⟨#[]⟩ : ByteArray), 2))))) else (none)) else (none)) else (if x4_1.length < 140737488355328 then (spec_within.l0 kj5 a0 (x4_1 ++ [(bt a0 x5_1)]) (wrap64 (x5_1 + 1))) else (none))) = some (r1, r2) := by rw [if_neg (show ¬ (false = true) by decide)] at H; exact H
                  clear H
                  have H := H1
                  clear H1
                  by_cases c9 : (bt a0 x5_1) = 92
                  · rw [if_pos c9] at H
                    have c9b0 : ((bt a0 x5_1) == 92) = true := beq_iff_eq.mpr c9
                    have c9b1 : ((bt a0 x5_1) != 92) = false := bne_eq_false_iff_eq.mpr c9
                    clear c9
                    obtain ⟨ji10, hji10⟩ : ∃ j_ : Int, (wrap64 (x5_1 + 1)) = j_ := ⟨_, rfl⟩
                    replace H : (if 0 ≤ (ji10) then (if (ji10) < (a0.size : Int) then (if (bt a0 (ji10)) = 110 then (if x4_1.length < 140737488355328 then (spec_within.l0 kj5 a0 (x4_1 ++ [10]) (wrap64 ((ji10) + 1))) else (none)) else (if (bt a0 (ji10)) = 34 then (if x4_1.length < 140737488355328 then (spec_within.l0 kj5 a0 (x4_1 ++ [bt a0 (ji10)]) (wrap64 ((ji10) + 1))) else (none)) else (if (bt a0 (ji10)) = 92 then (if x4_1.length < 140737488355328 then (spec_within.l0 kj5 a0 (x4_1 ++ [bt a0 (ji10)]) (wrap64 ((ji10) + 1))) else (none)) else (some ((⟨#[]⟩ : ByteArray), 2))))) else (none)) else (none)) = some (r1, r2) := by first | (rw [hji10] at H; exact H) | (simp only [hji10] at H ⊢; exact H)
                    have hji10w : (IntKind.i64.wrap (x5_1 + 1)) = ji10 := (i64_w _).trans hji10
                    by_cases c11 : 0 ≤ (ji10)
                    · rw [if_pos c11] at H
                      have c11b0 : decide (0 ≤ (ji10)) = true := decide_eq_true c11
                      clear c11
                      by_cases c12 : (ji10) < (a0.size : Int)
                      · rw [if_pos c12] at H
                        have c12b0 : decide ((ji10) < (a0.size : Int)) = true := decide_eq_true c12
                        clear c12
                        by_cases c14 : (bt a0 (ji10)) = 110
                        · rw [if_pos c14] at H
                          have c14b0 : ((bt a0 (ji10)) == 110) = true := beq_iff_eq.mpr c14
                          have c14b1 : ((bt a0 (ji10)) != 110) = false := bne_eq_false_iff_eq.mpr c14
                          clear c14
                          by_cases c15 : x4_1.length < 140737488355328
                          · rw [if_pos c15] at H
                            have LMc15 := Aside0.mk c15
                            clear c15
                            obtain ⟨y134, hy134⟩ : ∃ y_ : List Int, y_ = (x4_1 ++ [10]) := ⟨_, rfl⟩
                            replace H : (spec_within.l0 kj5 a0 y134 (wrap64 ((ji10) + 1))) = some (r1, r2) := by first | (rw [hy134]; with_reducible exact H) | (have H2_ := (Option.bind_some _ _).symm.trans H; rw [hy134]; with_reducible exact H2_) | (have H2_ := (Option.bind_some _ _).symm.trans H; with_reducible exact H2_) | with_reducible exact H | (rw [hy134]; exact H) | exact H
                            have Ny134 := Aside0.mk hy134
                            clear hy134
                            have H' := Aside0.mk H
                            clear H
                            have p13 : 0 ≤ ((ji10) : Int) := of_decide_eq_true (by first | (with_reducible assumption) | assumption)
                            have q13 : (ji10) < (a0.size : Int) := of_decide_eq_true (by first | (with_reducible assumption) | assumption)
                            have hx13 := bt_at a0 (ji10)
                            replace p13 := eq_true p13
                            replace q13 := eq_true q13
                            go_wp2_with (first | ((with_reducible refine gate_builtin (b := .append) (xs := #[.tmp 38, .tmp 40]) rfl ?_); at_builtin; refine Kd.R_append (Kd.int .u8) (w0 := w) w.heap.size rfl (.tmp 38) (.tmp 40) 83 5 (.int .u8 0) 1 rfl Tryz.underlying83 info5 rfl (by decide) (by omega) u4 x4_1 10 [.int .u8 10] (fun _ => True) (fun _ => False) rfl rfl ?aP (fun _ hk => hk.elim) ?aF ?aO ?aB ?aS ?aL ?_; (case aP => exact rfl); (case aB => exact (by repeat (first | (with_reducible first | exact HB.out | apply below_alloc | apply pw_below_drewN | apply below_drew1) | exact HB.out))); (case aF => exact (fun _ _ => trivial)); (case aO => exact (by (with_reducible repeat (first | apply Kd.R_alloc | apply Kd.R_drewN | apply Kd.R_drew)); exact HO_4.out)); (case aS => exact (below_size (by repeat (first | (with_reducible first | exact HB.out | apply below_alloc | apply pw_below_drewN | apply below_drew1) | exact HB.out)))); (case aL => have := LMc15.out; first | omega | exact this | exact Nat.le_of_lt this); intro v135 w16 ho hb hg hat; rw [← Ny134.out] at ho; have n0_ := Aside0.mk (hb); have n1_ := Aside0.mk (ho); clear HB; clear HO_4; have HB := n0_; have HO136 := n1_; clear n0_ n1_; clear ho hb hg hat))
                            go_roundg kj5
                            case measure => have := HK1.out; have := HJ5.out; omega
                            case rel => exact ⟨(y134), (wrap64 ((ji10) + 1)), (by first | rfl | (simp; done) | (simp only [← hji10] <;> (first | rfl | simp)) | (simp [*]; done)), H', ⟨by have := HK1.out; have := HJ5.out; omega⟩, ⟨by (with_reducible repeat (first | apply Kd.R_alloc | apply Kd.R_drewN | apply Kd.R_drew)); exact HO136.out⟩, ⟨by repeat (first | (with_reducible first | exact HB.out | apply below_alloc | apply pw_below_drewN | apply below_drew1) | exact HB.out)⟩⟩
                          · rw [if_neg c15] at H
                            exact absurd H (by simp)
                        · rw [if_neg c14] at H
                          have c14b0 : ((bt a0 (ji10)) == 110) = false := beq_eq_false_iff_ne.mpr c14
                          have c14b1 : ((bt a0 (ji10)) != 110) = true := bne_iff_ne.mpr c14
                          by_cases c17 : (bt a0 (ji10)) = 34
                          · rw [if_pos c17] at H
                            have c17b0 : ((bt a0 (ji10)) == 34) = true := beq_iff_eq.mpr c17
                            have c17b1 : ((bt a0 (ji10)) != 34) = false := bne_eq_false_iff_eq.mpr c17
                            clear c17
                            by_cases c19 : x4_1.length < 140737488355328
                            · rw [if_pos c19] at H
                              have LMc19 := Aside0.mk c19
                              clear c19
                              obtain ⟨y137, hy137⟩ : ∃ y_ : List Int, y_ = (x4_1 ++ [bt a0 (ji10)]) := ⟨_, rfl⟩
                              replace H : (spec_within.l0 kj5 a0 y137 (wrap64 ((ji10) + 1))) = some (r1, r2) := by first | (rw [hy137]; with_reducible exact H) | (have H2_ := (Option.bind_some _ _).symm.trans H; rw [hy137]; with_reducible exact H2_) | (have H2_ := (Option.bind_some _ _).symm.trans H; with_reducible exact H2_) | with_reducible exact H | (rw [hy137]; exact H) | exact H
                              have Ny137 := Aside0.mk hy137
                              clear hy137
                              have H' := Aside0.mk H
                              clear H
                              have p13 : 0 ≤ ((ji10) : Int) := of_decide_eq_true (by first | (with_reducible assumption) | assumption)
                              have q13 : (ji10) < (a0.size : Int) := of_decide_eq_true (by first | (with_reducible assumption) | assumption)
                              have hx13 := bt_at a0 (ji10)
                              replace p13 := eq_true p13
                              replace q13 := eq_true q13
                              have p18 : 0 ≤ ((ji10) : Int) := of_decide_eq_true (by first | (with_reducible assumption) | assumption)
                              have q18 : (ji10) < (a0.size : Int) := of_decide_eq_true (by first | (with_reducible assumption) | assumption)
                              have hx18 := bt_at a0 (ji10)
                              replace p18 := eq_true p18
                              replace q18 := eq_true q18
                              go_wp2_with (first | ((with_reducible refine gate_builtin (b := .append) (xs := #[.tmp 38, .tmp 40]) rfl ?_); at_builtin; refine Kd.R_append (Kd.int .u8) (w0 := w) w.heap.size rfl (.tmp 38) (.tmp 40) 83 5 (.int .u8 0) 1 rfl Tryz.underlying83 info5 rfl (by decide) (by omega) u4 x4_1 (bt a0 (ji10)) [.int .u8 (bt a0 (ji10))] (fun _ => True) (fun _ => False) rfl rfl ?aP (fun _ hk => hk.elim) ?aF ?aO ?aB ?aS ?aL ?_; (case aP => exact rfl); (case aB => exact (by repeat (first | (with_reducible first | exact HB.out | apply below_alloc | apply pw_below_drewN | apply below_drew1) | exact HB.out))); (case aF => exact (fun _ _ => trivial)); (case aO => exact (by (with_reducible repeat (first | apply Kd.R_alloc | apply Kd.R_drewN | apply Kd.R_drew)); exact HO_4.out)); (case aS => exact (below_size (by repeat (first | (with_reducible first | exact HB.out | apply below_alloc | apply pw_below_drewN | apply below_drew1) | exact HB.out)))); (case aL => have := LMc19.out; first | omega | exact this | exact Nat.le_of_lt this); intro v138 w20 ho hb hg hat; rw [← Ny137.out] at ho; have n0_ := Aside0.mk (hb); have n1_ := Aside0.mk (ho); clear HB; clear HO_4; have HB := n0_; have HO139 := n1_; clear n0_ n1_; clear ho hb hg hat))
                              go_roundg kj5
                              case measure => have := HK1.out; have := HJ5.out; omega
                              case rel => exact ⟨(y137), (wrap64 ((ji10) + 1)), (by first | rfl | (simp; done) | (simp only [← hji10] <;> (first | rfl | simp)) | (simp [*]; done)), H', ⟨by have := HK1.out; have := HJ5.out; omega⟩, ⟨by (with_reducible repeat (first | apply Kd.R_alloc | apply Kd.R_drewN | apply Kd.R_drew)); exact HO139.out⟩, ⟨by repeat (first | (with_reducible first | exact HB.out | apply below_alloc | apply pw_below_drewN | apply below_drew1) | exact HB.out)⟩⟩
                            · rw [if_neg c19] at H
                              exact absurd H (by simp)
                          · rw [if_neg c17] at H
                            have c17b0 : ((bt a0 (ji10)) == 34) = false := beq_eq_false_iff_ne.mpr c17
                            have c17b1 : ((bt a0 (ji10)) != 34) = true := bne_iff_ne.mpr c17
                            by_cases c21 : (bt a0 (ji10)) = 92
                            · rw [if_pos c21] at H
                              have c21b0 : ((bt a0 (ji10)) == 92) = true := beq_iff_eq.mpr c21
                              have c21b1 : ((bt a0 (ji10)) != 92) = false := bne_eq_false_iff_eq.mpr c21
                              clear c21
                              by_cases c23 : x4_1.length < 140737488355328
                              · rw [if_pos c23] at H
                                have LMc23 := Aside0.mk c23
                                clear c23
                                obtain ⟨y140, hy140⟩ : ∃ y_ : List Int, y_ = (x4_1 ++ [bt a0 (ji10)]) := ⟨_, rfl⟩
                                replace H : (spec_within.l0 kj5 a0 y140 (wrap64 ((ji10) + 1))) = some (r1, r2) := by first | (rw [hy140]; with_reducible exact H) | (have H2_ := (Option.bind_some _ _).symm.trans H; rw [hy140]; with_reducible exact H2_) | (have H2_ := (Option.bind_some _ _).symm.trans H; with_reducible exact H2_) | with_reducible exact H | (rw [hy140]; exact H) | exact H
                                have Ny140 := Aside0.mk hy140
                                clear hy140
                                have H' := Aside0.mk H
                                clear H
                                have p13 : 0 ≤ ((ji10) : Int) := of_decide_eq_true (by first | (with_reducible assumption) | assumption)
                                have q13 : (ji10) < (a0.size : Int) := of_decide_eq_true (by first | (with_reducible assumption) | assumption)
                                have hx13 := bt_at a0 (ji10)
                                replace p13 := eq_true p13
                                replace q13 := eq_true q13
                                have p22 : 0 ≤ ((ji10) : Int) := of_decide_eq_true (by first | (with_reducible assumption) | assumption)
                                have q22 : (ji10) < (a0.size : Int) := of_decide_eq_true (by first | (with_reducible assumption) | assumption)
                                have hx22 := bt_at a0 (ji10)
                                replace p22 := eq_true p22
                                replace q22 := eq_true q22
                                go_wp2_with (first | ((with_reducible refine gate_builtin (b := .append) (xs := #[.tmp 38, .tmp 40]) rfl ?_); at_builtin; refine Kd.R_append (Kd.int .u8) (w0 := w) w.heap.size rfl (.tmp 38) (.tmp 40) 83 5 (.int .u8 0) 1 rfl Tryz.underlying83 info5 rfl (by decide) (by omega) u4 x4_1 (bt a0 (ji10)) [.int .u8 (bt a0 (ji10))] (fun _ => True) (fun _ => False) rfl rfl ?aP (fun _ hk => hk.elim) ?aF ?aO ?aB ?aS ?aL ?_; (case aP => exact rfl); (case aB => exact (by repeat (first | (with_reducible first | exact HB.out | apply below_alloc | apply pw_below_drewN | apply below_drew1) | exact HB.out))); (case aF => exact (fun _ _ => trivial)); (case aO => exact (by (with_reducible repeat (first | apply Kd.R_alloc | apply Kd.R_drewN | apply Kd.R_drew)); exact HO_4.out)); (case aS => exact (below_size (by repeat (first | (with_reducible first | exact HB.out | apply below_alloc | apply pw_below_drewN | apply below_drew1) | exact HB.out)))); (case aL => have := LMc23.out; first | omega | exact this | exact Nat.le_of_lt this); intro v141 w24 ho hb hg hat; rw [← Ny140.out] at ho; have n0_ := Aside0.mk (hb); have n1_ := Aside0.mk (ho); clear HB; clear HO_4; have HB := n0_; have HO142 := n1_; clear n0_ n1_; clear ho hb hg hat))
                                go_roundg kj5
                                case measure => have := HK1.out; have := HJ5.out; omega
                                case rel => exact ⟨(y140), (wrap64 ((ji10) + 1)), (by first | rfl | (simp; done) | (simp only [← hji10] <;> (first | rfl | simp)) | (simp [*]; done)), H', ⟨by have := HK1.out; have := HJ5.out; omega⟩, ⟨by (with_reducible repeat (first | apply Kd.R_alloc | apply Kd.R_drewN | apply Kd.R_drew)); exact HO142.out⟩, ⟨by repeat (first | (with_reducible first | exact HB.out | apply below_alloc | apply pw_below_drewN | apply below_drew1) | exact HB.out)⟩⟩
                              · rw [if_neg c23] at H
                                exact absurd H (by simp)
                            · rw [if_neg c21] at H
                              have c21b0 : ((bt a0 (ji10)) == 92) = false := beq_eq_false_iff_ne.mpr c21
                              have c21b1 : ((bt a0 (ji10)) != 92) = true := bne_iff_ne.mpr c21
                              simp only [Option.some.injEq, Prod.mk.injEq] at H
                              obtain ⟨rfl, rfl⟩ := H
                              have p13 : 0 ≤ ((ji10) : Int) := of_decide_eq_true (by first | (with_reducible assumption) | assumption)
                              have q13 : (ji10) < (a0.size : Int) := of_decide_eq_true (by first | (with_reducible assumption) | assumption)
                              have hx13 := bt_at a0 (ji10)
                              replace p13 := eq_true p13
                              replace q13 := eq_true q13
                              go_wp2
                              go_ret2
                              exact ⟨by first | rfl | (simp [errW_none, errW_some] <;> rfl) | (simp only [← hji10]; first | rfl | (simp [errW_none, errW_some] <;> rfl)) | (simp [*, errW_none, errW_some] <;> rfl), by repeat (first | (with_reducible first | exact HB.out | apply below_alloc | apply pw_below_drewN | apply below_drew1) | exact HB.out)⟩
                      · rw [if_neg c12] at H
                        exact absurd H (by simp)
                    · rw [if_neg c11] at H
                      exact absurd H (by simp)
                  · rw [if_neg c9] at H
                    have c9b0 : ((bt a0 x5_1) == 92) = false := beq_eq_false_iff_ne.mpr c9
                    have c9b1 : ((bt a0 x5_1) != 92) = true := bne_iff_ne.mpr c9
                    by_cases c25 : x4_1.length < 140737488355328
                    · rw [if_pos c25] at H
                      have LMc25 := Aside0.mk c25
                      clear c25
                      obtain ⟨y143, hy143⟩ : ∃ y_ : List Int, y_ = (x4_1 ++ [(bt a0 x5_1)]) := ⟨_, rfl⟩
                      replace H : (spec_within.l0 kj5 a0 y143 (wrap64 (x5_1 + 1))) = some (r1, r2) := by first | (rw [hy143]; with_reducible exact H) | (have H2_ := (Option.bind_some _ _).symm.trans H; rw [hy143]; with_reducible exact H2_) | (have H2_ := (Option.bind_some _ _).symm.trans H; with_reducible exact H2_) | with_reducible exact H | (rw [hy143]; exact H) | exact H
                      have Ny143 := Aside0.mk hy143
                      clear hy143
                      have H' := Aside0.mk H
                      clear H
                      go_wp2_with (first | ((with_reducible refine gate_builtin (b := .append) (xs := #[.tmp 38, .tmp 40]) rfl ?_); at_builtin; refine Kd.R_append (Kd.int .u8) (w0 := w) w.heap.size rfl (.tmp 38) (.tmp 40) 83 5 (.int .u8 0) 1 rfl Tryz.underlying83 info5 rfl (by decide) (by omega) u4 x4_1 (bt a0 x5_1) [.int .u8 (bt a0 x5_1)] (fun _ => True) (fun _ => False) rfl rfl ?aP (fun _ hk => hk.elim) ?aF ?aO ?aB ?aS ?aL ?_; (case aP => exact rfl); (case aB => exact (by repeat (first | (with_reducible first | exact HB.out | apply below_alloc | apply pw_below_drewN | apply below_drew1) | exact HB.out))); (case aF => exact (fun _ _ => trivial)); (case aO => exact (by (with_reducible repeat (first | apply Kd.R_alloc | apply Kd.R_drewN | apply Kd.R_drew)); exact HO_4.out)); (case aS => exact (below_size (by repeat (first | (with_reducible first | exact HB.out | apply below_alloc | apply pw_below_drewN | apply below_drew1) | exact HB.out)))); (case aL => have := LMc25.out; first | omega | exact this | exact Nat.le_of_lt this); intro v144 w26 ho hb hg hat; rw [← Ny143.out] at ho; have n0_ := Aside0.mk (hb); have n1_ := Aside0.mk (ho); clear HB; clear HO_4; have HB := n0_; have HO145 := n1_; clear n0_ n1_; clear ho hb hg hat))
                      go_roundg kj5
                      case measure => have := HK1.out; have := HJ5.out; omega
                      case rel => exact ⟨(y143), (wrap64 (x5_1 + 1)), (by first | rfl | (simp; done) | (simp [*]; done)), H', ⟨by have := HK1.out; have := HJ5.out; omega⟩, ⟨by (with_reducible repeat (first | apply Kd.R_alloc | apply Kd.R_drewN | apply Kd.R_drew)); exact HO145.out⟩, ⟨by repeat (first | (with_reducible first | exact HB.out | apply below_alloc | apply pw_below_drewN | apply below_drew1) | exact HB.out)⟩⟩
                    · rw [if_neg c25] at H
                      exact absurd H (by simp)
          · rw [if_neg c4] at H
            exact absurd H (by simp)
        · rw [if_neg c3] at H
          exact absurd H (by simp)
      · rw [if_neg c2] at H
        have c2b0 : decide (x5_1 < (wrap64 ((a0.size : Int) - 1))) = false := decide_eq_false c2
        clear c2
        simp only [Option.some.injEq, Prod.mk.injEq] at H
        obtain ⟨rfl, rfl⟩ := H
        have hcv27 := own_string (P := Tryz.prog) Tryz.underlying83 Tryz.underlying5 Tryz.underlying9 (Kd.own_of_R HO_4.out)
        go_wp2
        go_ret2
        exact ⟨by first | rfl | (simp [errW_none, errW_some] <;> rfl) | (simp [*, errW_none, errW_some] <;> rfl), by repeat (first | (with_reducible first | exact HB.out | apply below_alloc | apply pw_below_drewN | apply below_drew1) | exact HB.out)⟩
end Go.Proofs.YtmjoebnphacadaaGreatDoor.Q
-- printed by this project's own program wip/tools/mkprint.py (the kit's print.py with hand-proved contracts put in)
namespace Go.Proofs.YtmjoebnphacadaaGreatDoor.Q
open Go.RowKit Go.Proofs.YtmjoebnphacadaaGreatDoorW.PrintWords Go.Proofs.YtmjoebnphacadaaGreatDoorW.PrintLast Go.Proofs.YtmjoebnphacadaaGreatDoorW.PrintMore
attribute [local go_sem] max2_int min2_int max_two min_two max_three min_three max_four min_four   -- for this text's walks alone
set_option linter.unusedVariables false
set_option linter.unusedSimpArgs false
/-! ### spec_word: function 22 -/
noncomputable def spec_word.f (k : Nat) (a0_0 : Int) (a0_1 : ByteArray) (a0_2 : Int) (a0_3 : Int) (a0_4 : Int) (a0_5 : Int) : Option (ByteArray × Int) := if a0_0 = 8 then ((spec_within.f k a0_1).bind fun bt147 => (some (bt147.1, bt147.2))) else (if a0_0 = 9 then (some (a0_1, 1)) else (some ((⟨#[]⟩ : ByteArray), 0)))
theorem spec_word.mono : ∀ a0 a1 a2 a3 a4 a5 k, LeO (spec_word.f k a0 a1 a2 a3 a4 a5) (spec_word.f (k + 1) a0 a1 a2 a3 a4 a5) := by
  intro a0 a1 a2 a3 a4 a5 k
  unfold spec_word.f
  repeat' first
      | (with_reducible exact spec_within.mono _ _)
      | (with_reducible exact LeO.refl _)
      | (with_reducible exact LeO.none _)
      | (with_reducible refine LeO.ite ?_ ?_)
      | (with_reducible refine LeO.bind ?_ (fun _ => ?_))
      | exact spec_within.mono _ _
      | exact LeO.none _
      | refine LeO.ite ?_ ?_
      | refine LeO.bind ?_ (fun _ => ?_)
set_option maxHeartbeats 8000000 in
set_option maxRecDepth 100000 in
theorem spec_word.calls (k : Nat) (a0_0 : Int) (a0_1 : ByteArray) (a0_2 : Int) (a0_3 : Int) (a0_4 : Int) (a0_5 : Int) (r1 : ByteArray) (r2 : Int) (w : World) (h : spec_word.f k a0_0 a0_1 a0_2 a0_3 a0_4 a0_5 = some (r1, r2)) :
    Calls Tryz.prog 22 #[.agg #[.int .i64 a0_0, .string a0_1, .int .i64 a0_2, .int .i64 a0_3, .int .i64 a0_4, .int .i64 a0_5]] w fun e w' => e = .returned (.tuple #[.string r1, .int .i64 r2]) ∧ Below w.heap.size w w' := by
  have hu49 := Tryz.underlying49
  have HB := Aside0.mk (Below.refl w.heap.size w)
  have H : (if a0_0 = 8 then ((spec_within.f k a0_1).bind fun bt147 => (some (bt147.1, bt147.2))) else (if a0_0 = 9 then (some (a0_1, 1)) else (some ((⟨#[]⟩ : ByteArray), 0)))) = some (r1, r2) := h
  clear h
  by_cases c2 : a0_0 = 8
  · rw [if_pos c2] at H
    have c2b0 : (a0_0 == 8) = true := beq_iff_eq.mpr c2
    have c2b1 : (a0_0 != 8) = false := bne_eq_false_iff_eq.mpr c2
    clear c2
    replace H := Option.bind_eq_some_iff.mp H
    obtain ⟨⟨t147, t148⟩, A30, H⟩ := H
    replace H : (some (t147, t148)) = some (r1, r2) := H
    have A3 := Aside0.mk A30
    clear A30
    simp only [Option.some.injEq, Prod.mk.injEq] at H
    obtain ⟨rfl, rfl⟩ := H
    go_enter Tryz.func22, Tryz.ntmps22
    go_wp2_with (first | ((with_reducible refine gate_dst (N := 1) rfl ?_); refine box_event ?hg (N := 1) ?hd (cs := #[.int .i64 a0_0, .string a0_1, .int .i64 a0_2, .int .i64 a0_3, .int .i64 a0_4, .int .i64 a0_5]) (t := 49) ?hr ?_; (case hd => rfl); (case hg => rfl); (case hr => first | (go_simp; done) | (go_simp; rfl)); intro gb146 hg w4 hbox hb; have n0_ := Aside0.mk (below_step (by repeat (first | (with_reducible first | exact HB.out | apply below_alloc | apply pw_below_drewN | apply below_drew1) | exact HB.out)) hb); have n1_ := Aside0.mk (hbox); have n2_ := Aside0.mk ((by rw [hg]; exact (below_size (by repeat (first | (with_reducible first | exact HB.out | apply below_alloc | apply pw_below_drewN | apply below_drew1) | exact HB.out))) : w.heap.size ≤ gb146)); have n3_ := Aside0.mk ((by rw [hg]; exact (below_size (by repeat (first | (with_reducible first | exact HB.out | apply below_alloc | apply pw_below_drewN | apply below_drew1) | exact HB.out))) : w.heap.size ≤ gb146)); clear HB; have HB := n0_; have BK146 := n1_; have GW146 := n2_; have GE146 := n3_; clear n0_ n1_ n2_ n3_; clear hb hbox hg; have hcz5_0 : w4.cell? ⟨gb146, 0, none⟩ = some (.int .i64 a0_0) := (blk_cell BK146.out 0).trans rfl; have hcz5_1 : w4.cell? ⟨gb146, 1, none⟩ = some (.string a0_1) := (blk_cell BK146.out 1).trans rfl; have hcz5_2 : w4.cell? ⟨gb146, 2, none⟩ = some (.int .i64 a0_2) := (blk_cell BK146.out 2).trans rfl; have hcz5_3 : w4.cell? ⟨gb146, 3, none⟩ = some (.int .i64 a0_3) := (blk_cell BK146.out 3).trans rfl; have hcz5_4 : w4.cell? ⟨gb146, 4, none⟩ = some (.int .i64 a0_4) := (blk_cell BK146.out 4).trans rfl; have hcz5_5 : w4.cell? ⟨gb146, 5, none⟩ = some (.int .i64 a0_5) := (blk_cell BK146.out 5).trans rfl; have hfz5_0 := blk_frozen BK146.out 0; have hfz5_1 := blk_frozen BK146.out 1; have hfz5_2 := blk_frozen BK146.out 2; have hfz5_3 := blk_frozen BK146.out 3; have hfz5_4 := blk_frozen BK146.out 4; have hfz5_5 := blk_frozen BK146.out 5) | ((with_reducible refine gate_callee (f := 29) rfl ?_); refine goesL_ (some 10) rfl rfl Tryz.func29 (by kernel_rfl) rfl #[.string a0_1] rfl (by (try simp only [List.map_toArray, List.map_cons, List.map_nil]); first | done | rfl | (simp only [List.length_drop, List.length_take]; rfl)) ?_; (with_reducible refine (spec_within.calls k a0_1 t147 t148 _ A3.out).mono ?_); rintro e w6 ⟨rfl, hb⟩; refine ⟨_, rfl, ?_⟩; have n0_ := Aside0.mk (blk_below (g := gb146) (o := .cells #[.int .i64 a0_0, .string a0_1, .int .i64 a0_2, .int .i64 a0_3, .int .i64 a0_4, .int .i64 a0_5] 49 (0, 0)) (by (with_reducible repeat (first | refine blk_drewN ?_ _ | refine blk_drew ?_ | refine blk_alloc ?_ _)); exact BK146.out) hb); have n1_ := Aside0.mk (below_step (by repeat (first | (with_reducible first | exact HB.out | apply below_alloc | apply pw_below_drewN | apply below_drew1 | refine below_set ?_ GE146.out) | exact HB.out)) hb); clear BK146; clear HB; have BK146 := n0_; have HB := n1_; clear n0_ n1_; (try clear hb); (try clear hb2); (try clear hk); (try clear hi)))
    go_ret2
    exact ⟨by first | rfl | (simp [errW_none, errW_some] <;> rfl) | (simp [*, errW_none, errW_some] <;> rfl), by repeat (first | (with_reducible first | exact HB.out | apply below_alloc | apply pw_below_drewN | apply below_drew1 | refine below_set ?_ GE146.out) | exact HB.out)⟩
  · rw [if_neg c2] at H
    have c2b0 : (a0_0 == 8) = false := beq_eq_false_iff_ne.mpr c2
    have c2b1 : (a0_0 != 8) = true := bne_iff_ne.mpr c2
    by_cases c7 : a0_0 = 9
    · rw [if_pos c7] at H
      have c7b0 : (a0_0 == 9) = true := beq_iff_eq.mpr c7
      have c7b1 : (a0_0 != 9) = false := bne_eq_false_iff_eq.mpr c7
      clear c7
      simp only [Option.some.injEq, Prod.mk.injEq] at H
      obtain ⟨rfl, rfl⟩ := H
      go_enter Tryz.func22, Tryz.ntmps22
      go_wp2_with (first | ((with_reducible refine gate_dst (N := 1) rfl ?_); refine box_event ?hg (N := 1) ?hd (cs := #[.int .i64 a0_0, .string a0_1, .int .i64 a0_2, .int .i64 a0_3, .int .i64 a0_4, .int .i64 a0_5]) (t := 49) ?hr ?_; (case hd => rfl); (case hg => rfl); (case hr => first | (go_simp; done) | (go_simp; rfl)); intro gb146 hg w8 hbox hb; have n0_ := Aside0.mk (below_step (by repeat (first | (with_reducible first | exact HB.out | apply below_alloc | apply pw_below_drewN | apply below_drew1) | exact HB.out)) hb); have n1_ := Aside0.mk (hbox); have n2_ := Aside0.mk ((by rw [hg]; exact (below_size (by repeat (first | (with_reducible first | exact HB.out | apply below_alloc | apply pw_below_drewN | apply below_drew1) | exact HB.out))) : w.heap.size ≤ gb146)); have n3_ := Aside0.mk ((by rw [hg]; exact (below_size (by repeat (first | (with_reducible first | exact HB.out | apply below_alloc | apply pw_below_drewN | apply below_drew1) | exact HB.out))) : w.heap.size ≤ gb146)); clear HB; have HB := n0_; have BK146 := n1_; have GW146 := n2_; have GE146 := n3_; clear n0_ n1_ n2_ n3_; clear hb hbox hg; have hcz9_0 : w8.cell? ⟨gb146, 0, none⟩ = some (.int .i64 a0_0) := (blk_cell BK146.out 0).trans rfl; have hcz9_1 : w8.cell? ⟨gb146, 1, none⟩ = some (.string a0_1) := (blk_cell BK146.out 1).trans rfl; have hcz9_2 : w8.cell? ⟨gb146, 2, none⟩ = some (.int .i64 a0_2) := (blk_cell BK146.out 2).trans rfl; have hcz9_3 : w8.cell? ⟨gb146, 3, none⟩ = some (.int .i64 a0_3) := (blk_cell BK146.out 3).trans rfl; have hcz9_4 : w8.cell? ⟨gb146, 4, none⟩ = some (.int .i64 a0_4) := (blk_cell BK146.out 4).trans rfl; have hcz9_5 : w8.cell? ⟨gb146, 5, none⟩ = some (.int .i64 a0_5) := (blk_cell BK146.out 5).trans rfl; have hfz9_0 := blk_frozen BK146.out 0; have hfz9_1 := blk_frozen BK146.out 1; have hfz9_2 := blk_frozen BK146.out 2; have hfz9_3 := blk_frozen BK146.out 3; have hfz9_4 := blk_frozen BK146.out 4; have hfz9_5 := blk_frozen BK146.out 5))
      go_ret2
      exact ⟨by first | rfl | (simp [errW_none, errW_some] <;> rfl) | (simp [*, errW_none, errW_some] <;> rfl), by repeat (first | (with_reducible first | exact HB.out | apply below_alloc | apply pw_below_drewN | apply below_drew1 | refine below_set ?_ GE146.out) | exact HB.out)⟩
    · rw [if_neg c7] at H
      have c7b0 : (a0_0 == 9) = false := beq_eq_false_iff_ne.mpr c7
      have c7b1 : (a0_0 != 9) = true := bne_iff_ne.mpr c7
      simp only [Option.some.injEq, Prod.mk.injEq] at H
      obtain ⟨rfl, rfl⟩ := H
      go_enter Tryz.func22, Tryz.ntmps22
      go_wp2_with (first | ((with_reducible refine gate_dst (N := 1) rfl ?_); refine box_event ?hg (N := 1) ?hd (cs := #[.int .i64 a0_0, .string a0_1, .int .i64 a0_2, .int .i64 a0_3, .int .i64 a0_4, .int .i64 a0_5]) (t := 49) ?hr ?_; (case hd => rfl); (case hg => rfl); (case hr => first | (go_simp; done) | (go_simp; rfl)); intro gb146 hg w10 hbox hb; have n0_ := Aside0.mk (below_step (by repeat (first | (with_reducible first | exact HB.out | apply below_alloc | apply pw_below_drewN | apply below_drew1) | exact HB.out)) hb); have n1_ := Aside0.mk (hbox); have n2_ := Aside0.mk ((by rw [hg]; exact (below_size (by repeat (first | (with_reducible first | exact HB.out | apply below_alloc | apply pw_below_drewN | apply below_drew1) | exact HB.out))) : w.heap.size ≤ gb146)); have n3_ := Aside0.mk ((by rw [hg]; exact (below_size (by repeat (first | (with_reducible first | exact HB.out | apply below_alloc | apply pw_below_drewN | apply below_drew1) | exact HB.out))) : w.heap.size ≤ gb146)); clear HB; have HB := n0_; have BK146 := n1_; have GW146 := n2_; have GE146 := n3_; clear n0_ n1_ n2_ n3_; clear hb hbox hg; have hcz11_0 : w10.cell? ⟨gb146, 0, none⟩ = some (.int .i64 a0_0) := (blk_cell BK146.out 0).trans rfl; have hcz11_1 : w10.cell? ⟨gb146, 1, none⟩ = some (.string a0_1) := (blk_cell BK146.out 1).trans rfl; have hcz11_2 : w10.cell? ⟨gb146, 2, none⟩ = some (.int .i64 a0_2) := (blk_cell BK146.out 2).trans rfl; have hcz11_3 : w10.cell? ⟨gb146, 3, none⟩ = some (.int .i64 a0_3) := (blk_cell BK146.out 3).trans rfl; have hcz11_4 : w10.cell? ⟨gb146, 4, none⟩ = some (.int .i64 a0_4) := (blk_cell BK146.out 4).trans rfl; have hcz11_5 : w10.cell? ⟨gb146, 5, none⟩ = some (.int .i64 a0_5) := (blk_cell BK146.out 5).trans rfl; have hfz11_0 := blk_frozen BK146.out 0; have hfz11_1 := blk_frozen BK146.out 1; have hfz11_2 := blk_frozen BK146.out 2; have hfz11_3 := blk_frozen BK146.out 3; have hfz11_4 := blk_frozen BK146.out 4; have hfz11_5 := blk_frozen BK146.out 5))
      go_ret2
      exact ⟨by first | rfl | (simp [errW_none, errW_some] <;> rfl) | (simp [*, errW_none, errW_some] <;> rfl), by repeat (first | (with_reducible first | exact HB.out | apply below_alloc | apply pw_below_drewN | apply below_drew1 | refine below_set ?_ GE146.out) | exact HB.out)⟩
end Go.Proofs.YtmjoebnphacadaaGreatDoor.Q
-- printed by this project's own program wip/tools/mkprint.py (the kit's print.py with hand-proved contracts put in)
namespace Go.Proofs.YtmjoebnphacadaaGreatDoor.Q
open Go.RowKit Go.Proofs.YtmjoebnphacadaaGreatDoorW.PrintWords Go.Proofs.YtmjoebnphacadaaGreatDoorW.PrintLast Go.Proofs.YtmjoebnphacadaaGreatDoorW.PrintMore
attribute [local go_sem] max2_int min2_int max_two min_two max_three min_three max_four min_four   -- for this text's walks alone
set_option linter.unusedVariables false
set_option linter.unusedSimpArgs false
/-! ### spec_three: function 13 -/
mutual
noncomputable def spec_three.j0 : Nat → List (S49) → Bool → Option (Int × ByteArray × ByteArray × Int)
  | 0, _, _ => none
  | k + 1, x0, x24 => if x24 = true then (some (0, (⟨#[]⟩ : ByteArray), (⟨#[]⟩ : ByteArray), 0)) else (if 0 < (x0.length : Int) then ((spec_word.f k ((rd_T49 x0 0).f0) ((rd_T49 x0 0).f1) ((rd_T49 x0 0).f2) ((rd_T49 x0 0).f3) ((rd_T49 x0 0).f4) ((rd_T49 x0 0).f5)).bind fun bt153 => (if 2 < (x0.length : Int) then ((spec_word.f k ((rd_T49 x0 2).f0) ((rd_T49 x0 2).f1) ((rd_T49 x0 2).f2) ((rd_T49 x0 2).f3) ((rd_T49 x0 2).f4) ((rd_T49 x0 2).f5)).bind fun bt156 => (if bt153.2 = 0 then (spec_three.j1 k x0 bt153.1 bt153.2 bt156.1 bt156.2 true) else (spec_three.j1 k x0 bt153.1 bt153.2 bt156.1 bt156.2 (bt156.2 == 0)))) else (none))) else (none))
noncomputable def spec_three.j1 : Nat → List (S49) → ByteArray → Int → ByteArray → Int → Bool → Option (Int × ByteArray × ByteArray × Int)
  | 0, _, _, _, _, _, _ => none
  | k + 1, x0, x4, x5, x6, x7, x45 => if x45 = true then (some (0, (⟨#[]⟩ : ByteArray), (⟨#[]⟩ : ByteArray), 0)) else (if x5 = 2 then (some (0, (⟨#[]⟩ : ByteArray), (⟨#[]⟩ : ByteArray), 2)) else (if x7 = 2 then (some (0, (⟨#[]⟩ : ByteArray), (⟨#[]⟩ : ByteArray), 2)) else (if x4.toList = ([] : List UInt8) then (some (0, (⟨#[]⟩ : ByteArray), (⟨#[]⟩ : ByteArray), 2)) else (if 1 < (x0.length : Int) then (some (wrap64 (((rd_T49 x0 1).f0) - 4), x4, x6, 1)) else (none)))))
end
noncomputable def spec_three.f (k : Nat) (l0 : List (S49)) : Option (Int × ByteArray × ByteArray × Int) := if (l0.length : Int) < 3 then (spec_three.j0 k l0 true) else (if 1 < (l0.length : Int) then (if ((rd_T49 l0 1).f0) < 4 then (spec_three.j0 k l0 true) else (spec_three.j0 k l0 (decide (((rd_T49 l0 1).f0) > 7)))) else (none))
theorem spec_three.mono_l : ∀ k, (∀ y0 y1, LeO (spec_three.j0 k y0 y1) (spec_three.j0 (k + 1) y0 y1)) ∧ (∀ y0 y1 y2 y3 y4 y5, LeO (spec_three.j1 k y0 y1 y2 y3 y4 y5) (spec_three.j1 (k + 1) y0 y1 y2 y3 y4 y5))
  | 0 => ⟨fun _ _ r h => by simp [spec_three.j0] at h, fun _ _ _ _ _ _ r h => by simp [spec_three.j1] at h⟩
  | k + 1 => by
    obtain ⟨ih0, ih1⟩ := spec_three.mono_l k
    refine ⟨?_, ?_⟩
    · intro y0 y1
      unfold spec_three.j0
      repeat' first
      | (with_reducible exact ih0 _ _)
      | (with_reducible exact ih1 _ _ _ _ _ _)
      | (with_reducible exact spec_word.mono _ _ _ _ _ _ _)
      | (with_reducible exact LeO.refl _)
      | (with_reducible exact LeO.none _)
      | (with_reducible refine LeO.ite ?_ ?_)
      | (with_reducible refine LeO.bind ?_ (fun _ => ?_))
      | exact ih0 _ _
      | exact ih1 _ _ _ _ _ _
      | exact spec_word.mono _ _ _ _ _ _ _
      | exact LeO.none _
      | refine LeO.ite ?_ ?_
      | refine LeO.bind ?_ (fun _ => ?_)
    · intro y0 y1 y2 y3 y4 y5
      unfold spec_three.j1
      repeat' first
      | (with_reducible exact ih0 _ _)
      | (with_reducible exact ih1 _ _ _ _ _ _)
      | (with_reducible exact spec_word.mono _ _ _ _ _ _ _)
      | (with_reducible exact LeO.refl _)
      | (with_reducible exact LeO.none _)
      | (with_reducible refine LeO.ite ?_ ?_)
      | (with_reducible refine LeO.bind ?_ (fun _ => ?_))
      | exact ih0 _ _
      | exact ih1 _ _ _ _ _ _
      | exact spec_word.mono _ _ _ _ _ _ _
      | exact LeO.none _
      | refine LeO.ite ?_ ?_
      | refine LeO.bind ?_ (fun _ => ?_)
theorem spec_three.mono : ∀ a0 k, LeO (spec_three.f k a0) (spec_three.f (k + 1) a0) := by
  intro a0 k
  obtain ⟨ih0, ih1⟩ := spec_three.mono_l k
  unfold spec_three.f
  repeat' first
      | (with_reducible exact ih0 _ _)
      | (with_reducible exact ih1 _ _ _ _ _ _)
      | (with_reducible exact spec_word.mono _ _ _ _ _ _ _)
      | (with_reducible exact LeO.refl _)
      | (with_reducible exact LeO.none _)
      | (with_reducible refine LeO.ite ?_ ?_)
      | (with_reducible refine LeO.bind ?_ (fun _ => ?_))
      | exact ih0 _ _
      | exact ih1 _ _ _ _ _ _
      | exact spec_word.mono _ _ _ _ _ _ _
      | exact LeO.none _
      | refine LeO.ite ?_ ?_
      | refine LeO.bind ?_ (fun _ => ?_)
set_option maxHeartbeats 8000000 in
set_option maxRecDepth 100000 in
theorem spec_three.calls (k : Nat) (A0 : Option Addr) (c0 : Nat) (l0 : List (S49)) (r1 : Int) (r2 : ByteArray) (r3 : ByteArray) (r4 : Int) (w : World) (hr0 : Kd.C k49 w A0 l0.length l0) (hc0 : l0.length ≤ c0) (h : spec_three.f k l0 = some (r1, r2, r3, r4)) :
    Calls Tryz.prog 13 #[.slice A0 l0.length c0] w fun e w' => e = .returned (.tuple #[.agg #[.int .i64 r1, .string r2, .string r3], .int .i64 r4]) ∧ Below w.heap.size w w' := by
  have hu45 := Tryz.underlying45
  have hu49 := Tryz.underlying49
  have HR0 := Aside0.mk hr0
  have HC0 := Aside0.mk hc0
  clear hr0 hc0
  have HB := Aside0.mk (Below.refl w.heap.size w)
  have H : (if (l0.length : Int) < 3 then (spec_three.j0 k l0 true) else (if 1 < (l0.length : Int) then (if ((rd_T49 l0 1).f0) < 4 then (spec_three.j0 k l0 true) else (spec_three.j0 k l0 (decide (((rd_T49 l0 1).f0) > 7)))) else (none))) = some (r1, r2, r3, r4) := h
  clear h
  have HC2 := Aside0.mk H
  clear H
  go_enter Tryz.func13, Tryz.ntmps13
  go_upto_region 1 with (first | ((with_reducible refine gate_dst (N := 2) rfl ?_); refine box_event ?hg (N := 2) ?hd (cs := #[.int .i64 0, .string (⟨#[]⟩ : ByteArray), .string (⟨#[]⟩ : ByteArray)]) (t := 45) ?hr ?_; (case hd => rfl); (case hg => rfl); (case hr => first | (go_simp; done) | (go_simp; rfl)); intro gb149 hg w3 hbox hb; have n0_ := Aside0.mk (below_step (by repeat (first | (with_reducible first | exact HB.out | apply below_alloc | apply pw_below_drewN | apply below_drew1) | exact HB.out)) hb); have n1_ := Aside0.mk (hbox); have n2_ := Aside0.mk ((by rw [hg]; exact (below_size (by repeat (first | (with_reducible first | exact HB.out | apply below_alloc | apply pw_below_drewN | apply below_drew1) | exact HB.out))) : w.heap.size ≤ gb149)); have n3_ := Aside0.mk ((by rw [hg]; exact (below_size (by repeat (first | (with_reducible first | exact HB.out | apply below_alloc | apply pw_below_drewN | apply below_drew1) | exact HB.out))) : w.heap.size ≤ gb149)); clear HB; have HB := n0_; have BK149 := n1_; have GW149 := n2_; have GE149 := n3_; clear n0_ n1_ n2_ n3_; clear hb hbox hg))
  (try simp only [Act.put, List.setIfInBounds_toArray, List.set_cons_zero, List.set_cons_succ])
  go_cut [24] (fun v24 wc => ∃ (kq : Nat) (x24_1 : Bool), v24 = .bool x24_1 ∧ Aside0 (spec_three.j0 kq l0 x24_1 = some (r1, r2, r3, r4)) ∧ Aside0 (kq ≤ k) ∧ Aside0 (wc.heap[gb149]? = some (.cells #[.int .i64 0, .string (⟨#[]⟩ : ByteArray), .string (⟨#[]⟩ : ByteArray)] 45 (0, 0))) ∧ Aside0 (Below w.heap.size w wc))
  case first =>
    have H := HC2.out
    clear HC2
    by_cases c4 : (l0.length : Int) < 3
    · rw [if_pos c4] at H
      have c4b0 : decide ((l0.length : Int) < 3) = true := decide_eq_true c4
      have c4b1 : decide (l0.length < 3) = true := decide_eq_true (by omega)
      clear c4
      (first | rw [c4b0] | (simp only [i64_w, i32_w]; rw [c4b0]) | skip)
      have H' := Aside0.mk H
      clear H
      go_wp2
      go_meet
      case rel => exact ⟨_, (true), (by first | rfl | (simp; done) | (simp [*]; done)), H', ⟨by first | omega | exact Nat.le_refl _⟩, ⟨by (with_reducible repeat (first | refine blk_drewN ?_ _ | refine blk_drew ?_ | refine blk_alloc ?_ _)); exact BK149.out⟩, ⟨by repeat (first | (with_reducible first | exact HB.out | apply below_alloc | apply pw_below_drewN | apply below_drew1 | refine below_set ?_ GE149.out) | exact HB.out)⟩⟩
    · rw [if_neg c4] at H
      have c4b0 : decide ((l0.length : Int) < 3) = false := decide_eq_false c4
      have c4b1 : decide (l0.length < 3) = false := decide_eq_false (by omega)
      clear c4
      (first | rw [c4b0] | (simp only [i64_w, i32_w]; rw [c4b0]) | skip)
      by_cases c5 : 1 < (l0.length : Int)
      · rw [if_pos c5] at H
        have c5b0 : decide (1 < (l0.length : Int)) = true := decide_eq_true c5
        have c5b1 : decide (1 < l0.length) = true := decide_eq_true (by omega)
        clear c5
        by_cases c6 : ((rd_T49 l0 1).f0) < 4
        · rw [if_pos c6] at H
          have c6b0 : decide (((rd_T49 l0 1).f0) < 4) = true := decide_eq_true c6
          clear c6
          have H' := Aside0.mk H
          clear H
          have p150 : 0 ≤ (1 : Int) := (by omega)
          have q150 : 1 < (l0.length : Int) := of_decide_eq_true (by first | (with_reducible assumption) | assumption)
          obtain ⟨ad150, e150, hx150_0, hx150_1, hx150_2, hx150_3, hx150_4, hx150_5⟩ := at_T49 HR0.out 1 p150 q150
          cases e150
          (try simp only [show (1 : Int).toNat = 1 from rfl, Nat.reduceMul, Nat.reduceEqDiff, Go.Addr.add, ↓reduceIte] at hx150_0)
          (try simp only [show (1 : Int).toNat = 1 from rfl, Nat.reduceMul, Nat.reduceEqDiff, Go.Addr.add, ↓reduceIte] at hx150_1)
          (try simp only [show (1 : Int).toNat = 1 from rfl, Nat.reduceMul, Nat.reduceEqDiff, Go.Addr.add, ↓reduceIte] at hx150_2)
          (try simp only [show (1 : Int).toNat = 1 from rfl, Nat.reduceMul, Nat.reduceEqDiff, Go.Addr.add, ↓reduceIte] at hx150_3)
          (try simp only [show (1 : Int).toNat = 1 from rfl, Nat.reduceMul, Nat.reduceEqDiff, Go.Addr.add, ↓reduceIte] at hx150_4)
          (try simp only [show (1 : Int).toNat = 1 from rfl, Nat.reduceMul, Nat.reduceEqDiff, Go.Addr.add, ↓reduceIte] at hx150_5)
          have qi150 : (1 < l0.length) = True := eq_true (by omega)
          (try rw [show ((1 : Int)).toNat = 1 from rfl] at hx150_0)
          (try rw [show 1 * 6 = 6 from rfl] at hx150_0)
          (try rw [show ((1 : Int)).toNat = 1 from rfl] at hx150_1)
          (try rw [show 1 * 6 = 6 from rfl] at hx150_1)
          (try rw [show ((1 : Int)).toNat = 1 from rfl] at hx150_2)
          (try rw [show 1 * 6 = 6 from rfl] at hx150_2)
          (try rw [show ((1 : Int)).toNat = 1 from rfl] at hx150_3)
          (try rw [show 1 * 6 = 6 from rfl] at hx150_3)
          (try rw [show ((1 : Int)).toNat = 1 from rfl] at hx150_4)
          (try rw [show 1 * 6 = 6 from rfl] at hx150_4)
          (try rw [show ((1 : Int)).toNat = 1 from rfl] at hx150_5)
          (try rw [show 1 * 6 = 6 from rfl] at hx150_5)
          replace hx150_0 := (HB.out.cell (World.block_lt_of_cell? w _ hx150_0)).trans hx150_0
          replace hx150_1 := (HB.out.cell (World.block_lt_of_cell? w _ hx150_1)).trans hx150_1
          replace hx150_2 := (HB.out.cell (World.block_lt_of_cell? w _ hx150_2)).trans hx150_2
          replace hx150_3 := (HB.out.cell (World.block_lt_of_cell? w _ hx150_3)).trans hx150_3
          replace hx150_4 := (HB.out.cell (World.block_lt_of_cell? w _ hx150_4)).trans hx150_4
          replace hx150_5 := (HB.out.cell (World.block_lt_of_cell? w _ hx150_5)).trans hx150_5
          replace p150 := eq_true p150
          replace q150 := eq_true q150
          go_wp2
          go_meet
          case rel => exact ⟨_, (true), (by first | rfl | (simp; done) | (simp [*]; done)), H', ⟨by first | omega | exact Nat.le_refl _⟩, ⟨by (with_reducible repeat (first | refine blk_drewN ?_ _ | refine blk_drew ?_ | refine blk_alloc ?_ _)); exact BK149.out⟩, ⟨by repeat (first | (with_reducible first | exact HB.out | apply below_alloc | apply pw_below_drewN | apply below_drew1 | refine below_set ?_ GE149.out) | exact HB.out)⟩⟩
        · rw [if_neg c6] at H
          have c6b0 : decide (((rd_T49 l0 1).f0) < 4) = false := decide_eq_false c6
          clear c6
          have H' := Aside0.mk H
          clear H
          have p150 : 0 ≤ (1 : Int) := (by omega)
          have q150 : 1 < (l0.length : Int) := of_decide_eq_true (by first | (with_reducible assumption) | assumption)
          obtain ⟨ad150, e150, hx150_0, hx150_1, hx150_2, hx150_3, hx150_4, hx150_5⟩ := at_T49 HR0.out 1 p150 q150
          cases e150
          (try simp only [show (1 : Int).toNat = 1 from rfl, Nat.reduceMul, Nat.reduceEqDiff, Go.Addr.add, ↓reduceIte] at hx150_0)
          (try simp only [show (1 : Int).toNat = 1 from rfl, Nat.reduceMul, Nat.reduceEqDiff, Go.Addr.add, ↓reduceIte] at hx150_1)
          (try simp only [show (1 : Int).toNat = 1 from rfl, Nat.reduceMul, Nat.reduceEqDiff, Go.Addr.add, ↓reduceIte] at hx150_2)
          (try simp only [show (1 : Int).toNat = 1 from rfl, Nat.reduceMul, Nat.reduceEqDiff, Go.Addr.add, ↓reduceIte] at hx150_3)
          (try simp only [show (1 : Int).toNat = 1 from rfl, Nat.reduceMul, Nat.reduceEqDiff, Go.Addr.add, ↓reduceIte] at hx150_4)
          (try simp only [show (1 : Int).toNat = 1 from rfl, Nat.reduceMul, Nat.reduceEqDiff, Go.Addr.add, ↓reduceIte] at hx150_5)
          have qi150 : (1 < l0.length) = True := eq_true (by omega)
          (try rw [show ((1 : Int)).toNat = 1 from rfl] at hx150_0)
          (try rw [show 1 * 6 = 6 from rfl] at hx150_0)
          (try rw [show ((1 : Int)).toNat = 1 from rfl] at hx150_1)
          (try rw [show 1 * 6 = 6 from rfl] at hx150_1)
          (try rw [show ((1 : Int)).toNat = 1 from rfl] at hx150_2)
          (try rw [show 1 * 6 = 6 from rfl] at hx150_2)
          (try rw [show ((1 : Int)).toNat = 1 from rfl] at hx150_3)
          (try rw [show 1 * 6 = 6 from rfl] at hx150_3)
          (try rw [show ((1 : Int)).toNat = 1 from rfl] at hx150_4)
          (try rw [show 1 * 6 = 6 from rfl] at hx150_4)
          (try rw [show ((1 : Int)).toNat = 1 from rfl] at hx150_5)
          (try rw [show 1 * 6 = 6 from rfl] at hx150_5)
          replace hx150_0 := (HB.out.cell (World.block_lt_of_cell? w _ hx150_0)).trans hx150_0
          replace hx150_1 := (HB.out.cell (World.block_lt_of_cell? w _ hx150_1)).trans hx150_1
          replace hx150_2 := (HB.out.cell (World.block_lt_of_cell? w _ hx150_2)).trans hx150_2
          replace hx150_3 := (HB.out.cell (World.block_lt_of_cell? w _ hx150_3)).trans hx150_3
          replace hx150_4 := (HB.out.cell (World.block_lt_of_cell? w _ hx150_4)).trans hx150_4
          replace hx150_5 := (HB.out.cell (World.block_lt_of_cell? w _ hx150_5)).trans hx150_5
          replace p150 := eq_true p150
          replace q150 := eq_true q150
          have p151 : 0 ≤ (1 : Int) := (by omega)
          have q151 : 1 < (l0.length : Int) := of_decide_eq_true (by first | (with_reducible assumption) | assumption)
          obtain ⟨ad151, e151, hx151_0, hx151_1, hx151_2, hx151_3, hx151_4, hx151_5⟩ := at_T49 HR0.out 1 p151 q151
          obtain rfl : ad150 = ad151 := (by injection e151)
          (try simp only [show (1 : Int).toNat = 1 from rfl, Nat.reduceMul, Nat.reduceEqDiff, Go.Addr.add, ↓reduceIte] at hx151_0)
          (try simp only [show (1 : Int).toNat = 1 from rfl, Nat.reduceMul, Nat.reduceEqDiff, Go.Addr.add, ↓reduceIte] at hx151_1)
          (try simp only [show (1 : Int).toNat = 1 from rfl, Nat.reduceMul, Nat.reduceEqDiff, Go.Addr.add, ↓reduceIte] at hx151_2)
          (try simp only [show (1 : Int).toNat = 1 from rfl, Nat.reduceMul, Nat.reduceEqDiff, Go.Addr.add, ↓reduceIte] at hx151_3)
          (try simp only [show (1 : Int).toNat = 1 from rfl, Nat.reduceMul, Nat.reduceEqDiff, Go.Addr.add, ↓reduceIte] at hx151_4)
          (try simp only [show (1 : Int).toNat = 1 from rfl, Nat.reduceMul, Nat.reduceEqDiff, Go.Addr.add, ↓reduceIte] at hx151_5)
          have qi151 : (1 < l0.length) = True := eq_true (by omega)
          (try rw [show ((1 : Int)).toNat = 1 from rfl] at hx151_0)
          (try rw [show 1 * 6 = 6 from rfl] at hx151_0)
          (try rw [show ((1 : Int)).toNat = 1 from rfl] at hx151_1)
          (try rw [show 1 * 6 = 6 from rfl] at hx151_1)
          (try rw [show ((1 : Int)).toNat = 1 from rfl] at hx151_2)
          (try rw [show 1 * 6 = 6 from rfl] at hx151_2)
          (try rw [show ((1 : Int)).toNat = 1 from rfl] at hx151_3)
          (try rw [show 1 * 6 = 6 from rfl] at hx151_3)
          (try rw [show ((1 : Int)).toNat = 1 from rfl] at hx151_4)
          (try rw [show 1 * 6 = 6 from rfl] at hx151_4)
          (try rw [show ((1 : Int)).toNat = 1 from rfl] at hx151_5)
          (try rw [show 1 * 6 = 6 from rfl] at hx151_5)
          replace hx151_0 := (HB.out.cell (World.block_lt_of_cell? w _ hx151_0)).trans hx151_0
          replace hx151_1 := (HB.out.cell (World.block_lt_of_cell? w _ hx151_1)).trans hx151_1
          replace hx151_2 := (HB.out.cell (World.block_lt_of_cell? w _ hx151_2)).trans hx151_2
          replace hx151_3 := (HB.out.cell (World.block_lt_of_cell? w _ hx151_3)).trans hx151_3
          replace hx151_4 := (HB.out.cell (World.block_lt_of_cell? w _ hx151_4)).trans hx151_4
          replace hx151_5 := (HB.out.cell (World.block_lt_of_cell? w _ hx151_5)).trans hx151_5
          replace p151 := eq_true p151
          replace q151 := eq_true q151
          go_wp2
          go_meet
          case rel => exact ⟨_, (decide (((rd_T49 l0 1).f0) > 7)), (by first | rfl | (simp; done) | (simp [*]; done)), H', ⟨by first | omega | exact Nat.le_refl _⟩, ⟨by (with_reducible repeat (first | refine blk_drewN ?_ _ | refine blk_drew ?_ | refine blk_alloc ?_ _)); exact BK149.out⟩, ⟨by repeat (first | (with_reducible first | exact HB.out | apply below_alloc | apply pw_below_drewN | apply below_drew1 | refine below_set ?_ GE149.out) | exact HB.out)⟩⟩
      · rw [if_neg c5] at H
        exact absurd H (by simp)
  case rest =>
    clear HC2
    try clear c1
    try clear p1
    try clear q1
    try clear hx1
    try clear qi1
    try clear p2
    try clear c4
    try clear c4b0
    try clear c4b1
    try clear c5
    try clear c5b0
    try clear c5b1
    try clear c6
    try clear c6b0
    try clear hx150_0
    try clear hx150_1
    try clear hx150_2
    try clear hx150_3
    try clear hx150_4
    try clear hx150_5
    try clear hx151_0
    try clear hx151_1
    try clear hx151_2
    try clear hx151_3
    try clear hx151_4
    try clear hx151_5
    try clear p150
    try clear p151
    try clear q150
    try clear q151
    obtain ⟨kq, x24_1, rfl, HA, HJ1, BK149, HB⟩ := hcut
    cases kq with
    | zero => exact absurd HA.out (by simp [spec_three.j0])
    | succ kj1 =>
      have H := HA.out
      clear HA
      simp only [spec_three.j0] at H
      by_cases c7 : x24_1 = true
      · subst c7
        have H1 : (some (0, (⟨#[]⟩ : ByteArray), (⟨#[]⟩ : ByteArray), 0)) = some (r1, r2, r3, r4) := by rw [if_pos rfl] at H; exact H
        clear H
        have H := H1
        clear H1
        simp only [Option.some.injEq, Prod.mk.injEq] at H
        obtain ⟨rfl, rfl, rfl, rfl⟩ := H
        have hcz8_0 : wc.cell? ⟨gb149, 0, none⟩ = some (.int .i64 0) := (blk_cell BK149.out 0).trans rfl
        have hcz8_1 : wc.cell? ⟨gb149, 1, none⟩ = some (.string (⟨#[]⟩ : ByteArray)) := (blk_cell BK149.out 1).trans rfl
        have hcz8_2 : wc.cell? ⟨gb149, 2, none⟩ = some (.string (⟨#[]⟩ : ByteArray)) := (blk_cell BK149.out 2).trans rfl
        have hfz8_0 := blk_frozen BK149.out 0
        have hfz8_1 := blk_frozen BK149.out 1
        have hfz8_2 := blk_frozen BK149.out 2
        go_wp2
        refine bodyPost_ret (results_ct rfl _ _ gb149 45 #[.int .i64 0, .string (⟨#[]⟩ : ByteArray), .string (⟨#[]⟩ : ByteArray)] (0, 0) _ rfl (by (with_reducible repeat (first | refine blk_drewN ?_ _ | refine blk_drew ?_ | refine blk_alloc ?_ _)); refine blk_put (cs := #[.int .i64 0, .string (⟨#[]⟩ : ByteArray), .string (⟨#[]⟩ : ByteArray)]) ?_ 2 _ rfl; (with_reducible repeat (first | refine blk_drewN ?_ _ | refine blk_drew ?_ | refine blk_alloc ?_ _)); refine blk_put (cs := #[.int .i64 0, .string (⟨#[]⟩ : ByteArray), .string (⟨#[]⟩ : ByteArray)]) ?_ 1 _ rfl; (with_reducible repeat (first | refine blk_drewN ?_ _ | refine blk_drew ?_ | refine blk_alloc ?_ _)); refine blk_put (cs := #[.int .i64 0, .string (⟨#[]⟩ : ByteArray), .string (⟨#[]⟩ : ByteArray)]) ?_ 0 _ rfl; (with_reducible repeat (first | refine blk_drewN ?_ _ | refine blk_drew ?_ | refine blk_alloc ?_ _)); exact BK149.out) Tryz.underlying45 rfl (by kernel_rfl)) rfl ?_
        exact ⟨by first | rfl | (simp [errW_none, errW_some] <;> rfl) | (simp [*, errW_none, errW_some] <;> rfl), by repeat (first | (with_reducible first | exact HB.out | apply below_alloc | apply pw_below_drewN | apply below_drew1 | refine below_set ?_ GE149.out) | exact HB.out)⟩
      · replace c7 := Bool.eq_false_iff.mpr c7
        subst c7
        have H1 : (if 0 < (l0.length : Int) then ((spec_word.f kj1 ((rd_T49 l0 0).f0) ((rd_T49 l0 0).f1) ((rd_T49 l0 0).f2) ((rd_T49 l0 0).f3) ((rd_T49 l0 0).f4) ((rd_T49 l0 0).f5)).bind fun bt153 => (if 2 < (l0.length : Int) then ((spec_word.f kj1 ((rd_T49 l0 2).f0) ((rd_T49 l0 2).f1) ((rd_T49 l0 2).f2) ((rd_T49 l0 2).f3) ((rd_T49 l0 2).f4) ((rd_T49 l0 2).f5)).bind fun bt156 => (if bt153.2 = 0 then (spec_three.j1 kj1 l0 bt153.1 bt153.2 bt156.1 bt156.2 true) else (spec_three.j1 kj1 l0 bt153.1 bt153.2 bt156.1 bt156.2 (bt156.2 == 0)))) else (none))) else (none)) = some (r1, r2, r3, r4) := by rw [if_neg (show ¬ (false = true) by decide)] at H; exact H
        clear H
        have H := H1
        clear H1
        by_cases c9 : 0 < (l0.length : Int)
        · rw [if_pos c9] at H
          have c9b0 : decide (0 < (l0.length : Int)) = true := decide_eq_true c9
          have c9b1 : decide (0 < l0.length) = true := decide_eq_true (by omega)
          clear c9
          replace H := Option.bind_eq_some_iff.mp H
          obtain ⟨⟨t153, t154⟩, A100, H⟩ := H
          replace H : (if 2 < (l0.length : Int) then ((spec_word.f kj1 ((rd_T49 l0 2).f0) ((rd_T49 l0 2).f1) ((rd_T49 l0 2).f2) ((rd_T49 l0 2).f3) ((rd_T49 l0 2).f4) ((rd_T49 l0 2).f5)).bind fun bt156 => (if t154 = 0 then (spec_three.j1 kj1 l0 t153 t154 bt156.1 bt156.2 true) else (spec_three.j1 kj1 l0 t153 t154 bt156.1 bt156.2 (bt156.2 == 0)))) else (none)) = some (r1, r2, r3, r4) := H
          have A10 := Aside0.mk A100
          clear A100
          by_cases c11 : 2 < (l0.length : Int)
          · rw [if_pos c11] at H
            have c11b0 : decide (2 < (l0.length : Int)) = true := decide_eq_true c11
            have c11b1 : decide (2 < l0.length) = true := decide_eq_true (by omega)
            clear c11
            replace H := Option.bind_eq_some_iff.mp H
            obtain ⟨⟨t156, t157⟩, A120, H⟩ := H
            replace H : (if t154 = 0 then (spec_three.j1 kj1 l0 t153 t154 t156 t157 true) else (spec_three.j1 kj1 l0 t153 t154 t156 t157 (t157 == 0))) = some (r1, r2, r3, r4) := H
            have A12 := Aside0.mk A120
            clear A120
            have HC13 := Aside0.mk H
            clear H
            have p152 : 0 ≤ (0 : Int) := (by omega)
            have q152 : 0 < (l0.length : Int) := of_decide_eq_true (by first | (with_reducible assumption) | assumption)
            obtain ⟨ad152, e152, hx152_0, hx152_1, hx152_2, hx152_3, hx152_4, hx152_5⟩ := at_T49 HR0.out 0 p152 q152
            cases e152
            have qi152 : (0 < l0.length) = True := eq_true (by omega)
            (try rw [show ((0 : Int)).toNat = 0 from rfl] at hx152_0)
            (try rw [show 0 * 6 = 0 from rfl] at hx152_0)
            (try rw [Addr.add_zero'] at hx152_0)
            (try rw [show ((0 : Int)).toNat = 0 from rfl] at hx152_1)
            (try rw [show 0 * 6 = 0 from rfl] at hx152_1)
            (try rw [Addr.add_zero'] at hx152_1)
            (try rw [show ((0 : Int)).toNat = 0 from rfl] at hx152_2)
            (try rw [show 0 * 6 = 0 from rfl] at hx152_2)
            (try rw [Addr.add_zero'] at hx152_2)
            (try rw [show ((0 : Int)).toNat = 0 from rfl] at hx152_3)
            (try rw [show 0 * 6 = 0 from rfl] at hx152_3)
            (try rw [Addr.add_zero'] at hx152_3)
            (try rw [show ((0 : Int)).toNat = 0 from rfl] at hx152_4)
            (try rw [show 0 * 6 = 0 from rfl] at hx152_4)
            (try rw [Addr.add_zero'] at hx152_4)
            (try rw [show ((0 : Int)).toNat = 0 from rfl] at hx152_5)
            (try rw [show 0 * 6 = 0 from rfl] at hx152_5)
            (try rw [Addr.add_zero'] at hx152_5)
            replace hx152_0 := (HB.out.cell (World.block_lt_of_cell? w _ hx152_0)).trans hx152_0
            replace hx152_1 := (HB.out.cell (World.block_lt_of_cell? w _ hx152_1)).trans hx152_1
            replace hx152_2 := (HB.out.cell (World.block_lt_of_cell? w _ hx152_2)).trans hx152_2
            replace hx152_3 := (HB.out.cell (World.block_lt_of_cell? w _ hx152_3)).trans hx152_3
            replace hx152_4 := (HB.out.cell (World.block_lt_of_cell? w _ hx152_4)).trans hx152_4
            replace hx152_5 := (HB.out.cell (World.block_lt_of_cell? w _ hx152_5)).trans hx152_5
            replace p152 := eq_true p152
            replace q152 := eq_true q152
            go_upto_region 5 with (first | ((with_reducible refine gate_callee (f := 22) rfl ?_); refine goesL_ (some 30) rfl rfl Tryz.func22 (by kernel_rfl) rfl #[.agg #[.int .i64 ((rd_T49 l0 0).f0), .string ((rd_T49 l0 0).f1), .int .i64 ((rd_T49 l0 0).f2), .int .i64 ((rd_T49 l0 0).f3), .int .i64 ((rd_T49 l0 0).f4), .int .i64 ((rd_T49 l0 0).f5)]] rfl (by (try simp only [List.map_toArray, List.map_cons, List.map_nil]); first | done | rfl | (simp only [List.length_drop, List.length_take]; rfl)) ?_; (with_reducible refine (spec_word.calls kj1 ((rd_T49 l0 0).f0) ((rd_T49 l0 0).f1) ((rd_T49 l0 0).f2) ((rd_T49 l0 0).f3) ((rd_T49 l0 0).f4) ((rd_T49 l0 0).f5) t153 t154 _ A10.out).mono ?_); rintro e w14 ⟨rfl, hb⟩; refine ⟨_, rfl, ?_⟩; have n0_ := Aside0.mk (blk_below (g := gb149) (o := .cells #[.int .i64 0, .string (⟨#[]⟩ : ByteArray), .string (⟨#[]⟩ : ByteArray)] 45 (0, 0)) (by (with_reducible repeat (first | refine blk_drewN ?_ _ | refine blk_drew ?_ | refine blk_alloc ?_ _)); exact BK149.out) hb); have n1_ := Aside0.mk (below_step (by repeat (first | (with_reducible first | exact HB.out | apply below_alloc | apply pw_below_drewN | apply below_drew1 | refine below_set ?_ GE149.out) | exact HB.out)) hb); clear BK149; clear HB; have BK149 := n0_; have HB := n1_; clear n0_ n1_; (try clear hb); (try clear hb2); (try clear hk); (try clear hi); have p155 : 0 ≤ (2 : Int) := (by omega); have q155 : 2 < (l0.length : Int) := of_decide_eq_true (by first | (with_reducible assumption) | assumption); obtain ⟨ad155, e155, hx155_0, hx155_1, hx155_2, hx155_3, hx155_4, hx155_5⟩ := at_T49 HR0.out 2 p155 q155; obtain rfl : ad152 = ad155 := (by injection e155); (try simp only [show (2 : Int).toNat = 2 from rfl, Nat.reduceMul, Nat.reduceEqDiff, Go.Addr.add, ↓reduceIte] at hx155_0); (try simp only [show (2 : Int).toNat = 2 from rfl, Nat.reduceMul, Nat.reduceEqDiff, Go.Addr.add, ↓reduceIte] at hx155_1); (try simp only [show (2 : Int).toNat = 2 from rfl, Nat.reduceMul, Nat.reduceEqDiff, Go.Addr.add, ↓reduceIte] at hx155_2); (try simp only [show (2 : Int).toNat = 2 from rfl, Nat.reduceMul, Nat.reduceEqDiff, Go.Addr.add, ↓reduceIte] at hx155_3); (try simp only [show (2 : Int).toNat = 2 from rfl, Nat.reduceMul, Nat.reduceEqDiff, Go.Addr.add, ↓reduceIte] at hx155_4); (try simp only [show (2 : Int).toNat = 2 from rfl, Nat.reduceMul, Nat.reduceEqDiff, Go.Addr.add, ↓reduceIte] at hx155_5); have qi155 : (2 < l0.length) = True := eq_true (by omega); (try rw [show ((2 : Int)).toNat = 2 from rfl] at hx155_0); (try rw [show 2 * 6 = 12 from rfl] at hx155_0); (try rw [show ((2 : Int)).toNat = 2 from rfl] at hx155_1); (try rw [show 2 * 6 = 12 from rfl] at hx155_1); (try rw [show ((2 : Int)).toNat = 2 from rfl] at hx155_2); (try rw [show 2 * 6 = 12 from rfl] at hx155_2); (try rw [show ((2 : Int)).toNat = 2 from rfl] at hx155_3); (try rw [show 2 * 6 = 12 from rfl] at hx155_3); (try rw [show ((2 : Int)).toNat = 2 from rfl] at hx155_4); (try rw [show 2 * 6 = 12 from rfl] at hx155_4); (try rw [show ((2 : Int)).toNat = 2 from rfl] at hx155_5); (try rw [show 2 * 6 = 12 from rfl] at hx155_5); replace hx155_0 := (HB.out.cell (World.block_lt_of_cell? w _ hx155_0)).trans hx155_0; replace hx155_1 := (HB.out.cell (World.block_lt_of_cell? w _ hx155_1)).trans hx155_1; replace hx155_2 := (HB.out.cell (World.block_lt_of_cell? w _ hx155_2)).trans hx155_2; replace hx155_3 := (HB.out.cell (World.block_lt_of_cell? w _ hx155_3)).trans hx155_3; replace hx155_4 := (HB.out.cell (World.block_lt_of_cell? w _ hx155_4)).trans hx155_4; replace hx155_5 := (HB.out.cell (World.block_lt_of_cell? w _ hx155_5)).trans hx155_5; replace p155 := eq_true p155; replace q155 := eq_true q155) | ((with_reducible refine gate_callee (f := 22) rfl ?_); refine goesL_ (some 37) rfl rfl Tryz.func22 (by kernel_rfl) rfl #[.agg #[.int .i64 ((rd_T49 l0 2).f0), .string ((rd_T49 l0 2).f1), .int .i64 ((rd_T49 l0 2).f2), .int .i64 ((rd_T49 l0 2).f3), .int .i64 ((rd_T49 l0 2).f4), .int .i64 ((rd_T49 l0 2).f5)]] rfl (by (try simp only [List.map_toArray, List.map_cons, List.map_nil]); first | done | rfl | (simp only [List.length_drop, List.length_take]; rfl)) ?_; (with_reducible refine (spec_word.calls kj1 ((rd_T49 l0 2).f0) ((rd_T49 l0 2).f1) ((rd_T49 l0 2).f2) ((rd_T49 l0 2).f3) ((rd_T49 l0 2).f4) ((rd_T49 l0 2).f5) t156 t157 _ A12.out).mono ?_); rintro e w15 ⟨rfl, hb⟩; refine ⟨_, rfl, ?_⟩; have n0_ := Aside0.mk (blk_below (g := gb149) (o := .cells #[.int .i64 0, .string (⟨#[]⟩ : ByteArray), .string (⟨#[]⟩ : ByteArray)] 45 (0, 0)) (by (with_reducible repeat (first | refine blk_drewN ?_ _ | refine blk_drew ?_ | refine blk_alloc ?_ _)); exact BK149.out) hb); have n1_ := Aside0.mk (below_step (by repeat (first | (with_reducible first | exact HB.out | apply below_alloc | apply pw_below_drewN | apply below_drew1 | refine below_set ?_ GE149.out) | exact HB.out)) hb); clear BK149; clear HB; have BK149 := n0_; have HB := n1_; clear n0_ n1_; (try clear hb); (try clear hb2); (try clear hk); (try clear hi)))
            (try simp only [Act.put, List.setIfInBounds_toArray, List.set_cons_zero, List.set_cons_succ])
            go_cut [45] (fun v45 wc => ∃ (kq : Nat) (x45_12 : Bool), v45 = .bool x45_12 ∧ Aside0 (spec_three.j1 kq l0 t153 t154 t156 t157 x45_12 = some (r1, r2, r3, r4)) ∧ Aside0 (kq ≤ kj1) ∧ Aside0 (wc.heap[gb149]? = some (.cells #[.int .i64 0, .string (⟨#[]⟩ : ByteArray), .string (⟨#[]⟩ : ByteArray)] 45 (0, 0))) ∧ Aside0 (Below w.heap.size w wc))
            case first =>
              have H := HC13.out
              clear HC13
              by_cases c16 : t154 = 0
              · rw [if_pos c16] at H
                have c16b0 : (t154 == 0) = true := beq_iff_eq.mpr c16
                have c16b1 : (t154 != 0) = false := bne_eq_false_iff_eq.mpr c16
                clear c16
                (first | rw [c16b0] | (simp only [i64_w, i32_w]; rw [c16b0]) | skip)
                have H' := Aside0.mk H
                clear H
                go_wp2
                go_meet
                case rel => exact ⟨_, (true), (by first | rfl | (simp; done) | (simp [*]; done)), H', ⟨by have := HJ1.out; first | omega | exact Nat.le_refl _⟩, ⟨by (with_reducible repeat (first | refine blk_drewN ?_ _ | refine blk_drew ?_ | refine blk_alloc ?_ _)); exact BK149.out⟩, ⟨by repeat (first | (with_reducible first | exact HB.out | apply below_alloc | apply pw_below_drewN | apply below_drew1 | refine below_set ?_ GE149.out) | exact HB.out)⟩⟩
              · rw [if_neg c16] at H
                have c16b0 : (t154 == 0) = false := beq_eq_false_iff_ne.mpr c16
                have c16b1 : (t154 != 0) = true := bne_iff_ne.mpr c16
                (first | rw [c16b0] | (simp only [i64_w, i32_w]; rw [c16b0]) | skip)
                have H' := Aside0.mk H
                clear H
                go_wp2
                go_meet
                case rel => exact ⟨_, ((t157 == 0)), (by first | rfl | (simp; done) | (simp [*]; done)), H', ⟨by have := HJ1.out; first | omega | exact Nat.le_refl _⟩, ⟨by (with_reducible repeat (first | refine blk_drewN ?_ _ | refine blk_drew ?_ | refine blk_alloc ?_ _)); exact BK149.out⟩, ⟨by repeat (first | (with_reducible first | exact HB.out | apply below_alloc | apply pw_below_drewN | apply below_drew1 | refine below_set ?_ GE149.out) | exact HB.out)⟩⟩
            case rest =>
              clear HC13
              try clear c1
              try clear p1
              try clear q1
              try clear hx1
              try clear qi1
              try clear c2
              try clear p2
              try clear c4
              try clear c4b0
              try clear c4b1
              try clear c5
              try clear c5b0
              try clear c5b1
              try clear c6
              try clear c6b0
              try clear c7
              try clear c9
              try clear c9b0
              try clear c9b1
              try clear c11
              try clear c11b0
              try clear c11b1
              try clear c13
              try clear p15
              try clear q15
              try clear hx15
              try clear qi15
              try clear c16
              try clear c16b0
              try clear c16b1
              try clear hcz8_0
              try clear hcz8_1
              try clear hcz8_2
              try clear hfz8_0
              try clear hfz8_1
              try clear hfz8_2
              try clear hx150_0
              try clear hx150_1
              try clear hx150_2
              try clear hx150_3
              try clear hx150_4
              try clear hx150_5
              try clear hx151_0
              try clear hx151_1
              try clear hx151_2
              try clear hx151_3
              try clear hx151_4
              try clear hx151_5
              try clear hx152_0
              try clear hx152_1
              try clear hx152_2
              try clear hx152_3
              try clear hx152_4
              try clear hx152_5
              try clear hx155_0
              try clear hx155_1
              try clear hx155_2
              try clear hx155_3
              try clear hx155_4
              try clear hx155_5
              try clear p1
              try clear p150
              try clear p151
              try clear p152
              try clear p155
              try clear p2
              try clear q1
              try clear q150
              try clear q151
              try clear q152
              try clear q155
              obtain ⟨kq, x45_12, rfl, HA, HJ12, BK149, HB⟩ := hcut
              cases kq with
              | zero => exact absurd HA.out (by simp [spec_three.j1])
              | succ kj12 =>
                have H := HA.out
                clear HA
                simp only [spec_three.j1] at H
                by_cases c17 : x45_12 = true
                · subst c17
                  have H1 : (some (0, (⟨#[]⟩ : ByteArray), (⟨#[]⟩ : ByteArray), 0)) = some (r1, r2, r3, r4) := by rw [if_pos rfl] at H; exact H
                  clear H
                  have H := H1
                  clear H1
                  simp only [Option.some.injEq, Prod.mk.injEq] at H
                  obtain ⟨rfl, rfl, rfl, rfl⟩ := H
                  have hcz18_0 : wc.cell? ⟨gb149, 0, none⟩ = some (.int .i64 0) := (blk_cell BK149.out 0).trans rfl
                  have hcz18_1 : wc.cell? ⟨gb149, 1, none⟩ = some (.string (⟨#[]⟩ : ByteArray)) := (blk_cell BK149.out 1).trans rfl
                  have hcz18_2 : wc.cell? ⟨gb149, 2, none⟩ = some (.string (⟨#[]⟩ : ByteArray)) := (blk_cell BK149.out 2).trans rfl
                  have hfz18_0 := blk_frozen BK149.out 0
                  have hfz18_1 := blk_frozen BK149.out 1
                  have hfz18_2 := blk_frozen BK149.out 2
                  go_wp2
                  refine bodyPost_ret (results_ct rfl _ _ gb149 45 #[.int .i64 0, .string (⟨#[]⟩ : ByteArray), .string (⟨#[]⟩ : ByteArray)] (0, 0) _ rfl (by (with_reducible repeat (first | refine blk_drewN ?_ _ | refine blk_drew ?_ | refine blk_alloc ?_ _)); refine blk_put (cs := #[.int .i64 0, .string (⟨#[]⟩ : ByteArray), .string (⟨#[]⟩ : ByteArray)]) ?_ 2 _ rfl; (with_reducible repeat (first | refine blk_drewN ?_ _ | refine blk_drew ?_ | refine blk_alloc ?_ _)); refine blk_put (cs := #[.int .i64 0, .string (⟨#[]⟩ : ByteArray), .string (⟨#[]⟩ : ByteArray)]) ?_ 1 _ rfl; (with_reducible repeat (first | refine blk_drewN ?_ _ | refine blk_drew ?_ | refine blk_alloc ?_ _)); refine blk_put (cs := #[.int .i64 0, .string (⟨#[]⟩ : ByteArray), .string (⟨#[]⟩ : ByteArray)]) ?_ 0 _ rfl; (with_reducible repeat (first | refine blk_drewN ?_ _ | refine blk_drew ?_ | refine blk_alloc ?_ _)); exact BK149.out) Tryz.underlying45 rfl (by kernel_rfl)) rfl ?_
                  exact ⟨by first | rfl | (simp [errW_none, errW_some] <;> rfl) | (simp [*, errW_none, errW_some] <;> rfl), by repeat (first | (with_reducible first | exact HB.out | apply below_alloc | apply pw_below_drewN | apply below_drew1 | refine below_set ?_ GE149.out) | exact HB.out)⟩
                · replace c17 := Bool.eq_false_iff.mpr c17
                  subst c17
                  have H1 : (if t154 = 2 then (some (0, (⟨#[]⟩ : ByteArray), (⟨#[]⟩ : ByteArray), 2)) else (if t157 = 2 then (some (0, (⟨#[]⟩ : ByteArray), (⟨#[]⟩ : ByteArray), 2)) else (if t153.toList = ([] : List UInt8) then (some (0, (⟨#[]⟩ : ByteArray), (⟨#[]⟩ : ByteArray), 2)) else (if 1 < (l0.length : Int) then (some (wrap64 (((rd_T49 l0 1).f0) - 4), t153, t156, 1)) else (none))))) = some (r1, r2, r3, r4) := by rw [if_neg (show ¬ (false = true) by decide)] at H; exact H
                  clear H
                  have H := H1
                  clear H1
                  by_cases c19 : t154 = 2
                  · rw [if_pos c19] at H
                    have c19b0 : (t154 == 2) = true := beq_iff_eq.mpr c19
                    have c19b1 : (t154 != 2) = false := bne_eq_false_iff_eq.mpr c19
                    clear c19
                    simp only [Option.some.injEq, Prod.mk.injEq] at H
                    obtain ⟨rfl, rfl, rfl, rfl⟩ := H
                    have hcz20_0 : wc.cell? ⟨gb149, 0, none⟩ = some (.int .i64 0) := (blk_cell BK149.out 0).trans rfl
                    have hcz20_1 : wc.cell? ⟨gb149, 1, none⟩ = some (.string (⟨#[]⟩ : ByteArray)) := (blk_cell BK149.out 1).trans rfl
                    have hcz20_2 : wc.cell? ⟨gb149, 2, none⟩ = some (.string (⟨#[]⟩ : ByteArray)) := (blk_cell BK149.out 2).trans rfl
                    have hfz20_0 := blk_frozen BK149.out 0
                    have hfz20_1 := blk_frozen BK149.out 1
                    have hfz20_2 := blk_frozen BK149.out 2
                    go_wp2
                    refine bodyPost_ret (results_ct rfl _ _ gb149 45 #[.int .i64 0, .string (⟨#[]⟩ : ByteArray), .string (⟨#[]⟩ : ByteArray)] (0, 0) _ rfl (by (with_reducible repeat (first | refine blk_drewN ?_ _ | refine blk_drew ?_ | refine blk_alloc ?_ _)); refine blk_put (cs := #[.int .i64 0, .string (⟨#[]⟩ : ByteArray), .string (⟨#[]⟩ : ByteArray)]) ?_ 2 _ rfl; (with_reducible repeat (first | refine blk_drewN ?_ _ | refine blk_drew ?_ | refine blk_alloc ?_ _)); refine blk_put (cs := #[.int .i64 0, .string (⟨#[]⟩ : ByteArray), .string (⟨#[]⟩ : ByteArray)]) ?_ 1 _ rfl; (with_reducible repeat (first | refine blk_drewN ?_ _ | refine blk_drew ?_ | refine blk_alloc ?_ _)); refine blk_put (cs := #[.int .i64 0, .string (⟨#[]⟩ : ByteArray), .string (⟨#[]⟩ : ByteArray)]) ?_ 0 _ rfl; (with_reducible repeat (first | refine blk_drewN ?_ _ | refine blk_drew ?_ | refine blk_alloc ?_ _)); exact BK149.out) Tryz.underlying45 rfl (by kernel_rfl)) rfl ?_
                    exact ⟨by first | rfl | (simp [errW_none, errW_some] <;> rfl) | (simp [*, errW_none, errW_some] <;> rfl), by repeat (first | (with_reducible first | exact HB.out | apply below_alloc | apply pw_below_drewN | apply below_drew1 | refine below_set ?_ GE149.out) | exact HB.out)⟩
                  · rw [if_neg c19] at H
                    have c19b0 : (t154 == 2) = false := beq_eq_false_iff_ne.mpr c19
                    have c19b1 : (t154 != 2) = true := bne_iff_ne.mpr c19
                    by_cases c21 : t157 = 2
                    · rw [if_pos c21] at H
                      have c21b0 : (t157 == 2) = true := beq_iff_eq.mpr c21
                      have c21b1 : (t157 != 2) = false := bne_eq_false_iff_eq.mpr c21
                      clear c21
                      simp only [Option.some.injEq, Prod.mk.injEq] at H
                      obtain ⟨rfl, rfl, rfl, rfl⟩ := H
                      have hcz22_0 : wc.cell? ⟨gb149, 0, none⟩ = some (.int .i64 0) := (blk_cell BK149.out 0).trans rfl
                      have hcz22_1 : wc.cell? ⟨gb149, 1, none⟩ = some (.string (⟨#[]⟩ : ByteArray)) := (blk_cell BK149.out 1).trans rfl
                      have hcz22_2 : wc.cell? ⟨gb149, 2, none⟩ = some (.string (⟨#[]⟩ : ByteArray)) := (blk_cell BK149.out 2).trans rfl
                      have hfz22_0 := blk_frozen BK149.out 0
                      have hfz22_1 := blk_frozen BK149.out 1
                      have hfz22_2 := blk_frozen BK149.out 2
                      go_wp2
                      refine bodyPost_ret (results_ct rfl _ _ gb149 45 #[.int .i64 0, .string (⟨#[]⟩ : ByteArray), .string (⟨#[]⟩ : ByteArray)] (0, 0) _ rfl (by (with_reducible repeat (first | refine blk_drewN ?_ _ | refine blk_drew ?_ | refine blk_alloc ?_ _)); refine blk_put (cs := #[.int .i64 0, .string (⟨#[]⟩ : ByteArray), .string (⟨#[]⟩ : ByteArray)]) ?_ 2 _ rfl; (with_reducible repeat (first | refine blk_drewN ?_ _ | refine blk_drew ?_ | refine blk_alloc ?_ _)); refine blk_put (cs := #[.int .i64 0, .string (⟨#[]⟩ : ByteArray), .string (⟨#[]⟩ : ByteArray)]) ?_ 1 _ rfl; (with_reducible repeat (first | refine blk_drewN ?_ _ | refine blk_drew ?_ | refine blk_alloc ?_ _)); refine blk_put (cs := #[.int .i64 0, .string (⟨#[]⟩ : ByteArray), .string (⟨#[]⟩ : ByteArray)]) ?_ 0 _ rfl; (with_reducible repeat (first | refine blk_drewN ?_ _ | refine blk_drew ?_ | refine blk_alloc ?_ _)); exact BK149.out) Tryz.underlying45 rfl (by kernel_rfl)) rfl ?_
                      exact ⟨by first | rfl | (simp [errW_none, errW_some] <;> rfl) | (simp [*, errW_none, errW_some] <;> rfl), by repeat (first | (with_reducible first | exact HB.out | apply below_alloc | apply pw_below_drewN | apply below_drew1 | refine below_set ?_ GE149.out) | exact HB.out)⟩
                    · rw [if_neg c21] at H
                      have c21b0 : (t157 == 2) = false := beq_eq_false_iff_ne.mpr c21
                      have c21b1 : (t157 != 2) = true := bne_iff_ne.mpr c21
                      by_cases c23 : t153.toList = ([] : List UInt8)
                      · rw [if_pos c23] at H
                        have c23b0 : (t153.toList == ([] : List UInt8)) = true := beq_iff_eq.mpr c23
                        have c23b1 : (t153.toList != ([] : List UInt8)) = false := bne_eq_false_iff_eq.mpr c23
                        clear c23
                        simp only [Option.some.injEq, Prod.mk.injEq] at H
                        obtain ⟨rfl, rfl, rfl, rfl⟩ := H
                        have hcz24_0 : wc.cell? ⟨gb149, 0, none⟩ = some (.int .i64 0) := (blk_cell BK149.out 0).trans rfl
                        have hcz24_1 : wc.cell? ⟨gb149, 1, none⟩ = some (.string (⟨#[]⟩ : ByteArray)) := (blk_cell BK149.out 1).trans rfl
                        have hcz24_2 : wc.cell? ⟨gb149, 2, none⟩ = some (.string (⟨#[]⟩ : ByteArray)) := (blk_cell BK149.out 2).trans rfl
                        have hfz24_0 := blk_frozen BK149.out 0
                        have hfz24_1 := blk_frozen BK149.out 1
                        have hfz24_2 := blk_frozen BK149.out 2
                        go_wp2
                        refine bodyPost_ret (results_ct rfl _ _ gb149 45 #[.int .i64 0, .string (⟨#[]⟩ : ByteArray), .string (⟨#[]⟩ : ByteArray)] (0, 0) _ rfl (by (with_reducible repeat (first | refine blk_drewN ?_ _ | refine blk_drew ?_ | refine blk_alloc ?_ _)); refine blk_put (cs := #[.int .i64 0, .string (⟨#[]⟩ : ByteArray), .string (⟨#[]⟩ : ByteArray)]) ?_ 2 _ rfl; (with_reducible repeat (first | refine blk_drewN ?_ _ | refine blk_drew ?_ | refine blk_alloc ?_ _)); refine blk_put (cs := #[.int .i64 0, .string (⟨#[]⟩ : ByteArray), .string (⟨#[]⟩ : ByteArray)]) ?_ 1 _ rfl; (with_reducible repeat (first | refine blk_drewN ?_ _ | refine blk_drew ?_ | refine blk_alloc ?_ _)); refine blk_put (cs := #[.int .i64 0, .string (⟨#[]⟩ : ByteArray), .string (⟨#[]⟩ : ByteArray)]) ?_ 0 _ rfl; (with_reducible repeat (first | refine blk_drewN ?_ _ | refine blk_drew ?_ | refine blk_alloc ?_ _)); exact BK149.out) Tryz.underlying45 rfl (by kernel_rfl)) rfl ?_
                        exact ⟨by first | rfl | (simp [errW_none, errW_some] <;> rfl) | (simp [*, errW_none, errW_some] <;> rfl), by repeat (first | (with_reducible first | exact HB.out | apply below_alloc | apply pw_below_drewN | apply below_drew1 | refine below_set ?_ GE149.out) | exact HB.out)⟩
                      · rw [if_neg c23] at H
                        have c23b0 : (t153.toList == ([] : List UInt8)) = false := beq_eq_false_iff_ne.mpr c23
                        have c23b1 : (t153.toList != ([] : List UInt8)) = true := bne_iff_ne.mpr c23
                        by_cases c25 : 1 < (l0.length : Int)
                        · rw [if_pos c25] at H
                          have c25b0 : decide (1 < (l0.length : Int)) = true := decide_eq_true c25
                          have c25b1 : decide (1 < l0.length) = true := decide_eq_true (by omega)
                          clear c25
                          simp only [Option.some.injEq, Prod.mk.injEq] at H
                          obtain ⟨rfl, rfl, rfl, rfl⟩ := H
                          have p158 : 0 ≤ (1 : Int) := (by omega)
                          have q158 : 1 < (l0.length : Int) := of_decide_eq_true (by first | (with_reducible assumption) | assumption)
                          obtain ⟨ad158, e158, hx158_0, hx158_1, hx158_2, hx158_3, hx158_4, hx158_5⟩ := at_T49 HR0.out 1 p158 q158
                          obtain rfl : ad152 = ad158 := (by injection e158)
                          (try simp only [show (1 : Int).toNat = 1 from rfl, Nat.reduceMul, Nat.reduceEqDiff, Go.Addr.add, ↓reduceIte] at hx158_0)
                          (try simp only [show (1 : Int).toNat = 1 from rfl, Nat.reduceMul, Nat.reduceEqDiff, Go.Addr.add, ↓reduceIte] at hx158_1)
                          (try simp only [show (1 : Int).toNat = 1 from rfl, Nat.reduceMul, Nat.reduceEqDiff, Go.Addr.add, ↓reduceIte] at hx158_2)
                          (try simp only [show (1 : Int).toNat = 1 from rfl, Nat.reduceMul, Nat.reduceEqDiff, Go.Addr.add, ↓reduceIte] at hx158_3)
                          (try simp only [show (1 : Int).toNat = 1 from rfl, Nat.reduceMul, Nat.reduceEqDiff, Go.Addr.add, ↓reduceIte] at hx158_4)
                          (try simp only [show (1 : Int).toNat = 1 from rfl, Nat.reduceMul, Nat.reduceEqDiff, Go.Addr.add, ↓reduceIte] at hx158_5)
                          have qi158 : (1 < l0.length) = True := eq_true (by omega)
                          (try rw [show ((1 : Int)).toNat = 1 from rfl] at hx158_0)
                          (try rw [show 1 * 6 = 6 from rfl] at hx158_0)
                          (try rw [show ((1 : Int)).toNat = 1 from rfl] at hx158_1)
                          (try rw [show 1 * 6 = 6 from rfl] at hx158_1)
                          (try rw [show ((1 : Int)).toNat = 1 from rfl] at hx158_2)
                          (try rw [show 1 * 6 = 6 from rfl] at hx158_2)
                          (try rw [show ((1 : Int)).toNat = 1 from rfl] at hx158_3)
                          (try rw [show 1 * 6 = 6 from rfl] at hx158_3)
                          (try rw [show ((1 : Int)).toNat = 1 from rfl] at hx158_4)
                          (try rw [show 1 * 6 = 6 from rfl] at hx158_4)
                          (try rw [show ((1 : Int)).toNat = 1 from rfl] at hx158_5)
                          (try rw [show 1 * 6 = 6 from rfl] at hx158_5)
                          replace hx158_0 := (HB.out.cell (World.block_lt_of_cell? w _ hx158_0)).trans hx158_0
                          replace hx158_1 := (HB.out.cell (World.block_lt_of_cell? w _ hx158_1)).trans hx158_1
                          replace hx158_2 := (HB.out.cell (World.block_lt_of_cell? w _ hx158_2)).trans hx158_2
                          replace hx158_3 := (HB.out.cell (World.block_lt_of_cell? w _ hx158_3)).trans hx158_3
                          replace hx158_4 := (HB.out.cell (World.block_lt_of_cell? w _ hx158_4)).trans hx158_4
                          replace hx158_5 := (HB.out.cell (World.block_lt_of_cell? w _ hx158_5)).trans hx158_5
                          replace p158 := eq_true p158
                          replace q158 := eq_true q158
                          have hcz26_0 : wc.cell? ⟨gb149, 0, none⟩ = some (.int .i64 0) := (blk_cell BK149.out 0).trans rfl
                          have hcz26_1 : wc.cell? ⟨gb149, 1, none⟩ = some (.string (⟨#[]⟩ : ByteArray)) := (blk_cell BK149.out 1).trans rfl
                          have hcz26_2 : wc.cell? ⟨gb149, 2, none⟩ = some (.string (⟨#[]⟩ : ByteArray)) := (blk_cell BK149.out 2).trans rfl
                          have hfz26_0 := blk_frozen BK149.out 0
                          have hfz26_1 := blk_frozen BK149.out 1
                          have hfz26_2 := blk_frozen BK149.out 2
                          go_wp2
                          refine bodyPost_ret (results_ct rfl _ _ gb149 45 #[.int .i64 (wrap64 (((rd_T49 l0 1).f0) - 4)), .string t153, .string t156] (0, 0) _ rfl (by (with_reducible repeat (first | refine blk_drewN ?_ _ | refine blk_drew ?_ | refine blk_alloc ?_ _)); refine blk_put (cs := #[.int .i64 (wrap64 (((rd_T49 l0 1).f0) - 4)), .string t153, .string (⟨#[]⟩ : ByteArray)]) ?_ 2 _ rfl; (with_reducible repeat (first | refine blk_drewN ?_ _ | refine blk_drew ?_ | refine blk_alloc ?_ _)); refine blk_put (cs := #[.int .i64 (wrap64 (((rd_T49 l0 1).f0) - 4)), .string (⟨#[]⟩ : ByteArray), .string (⟨#[]⟩ : ByteArray)]) ?_ 1 _ rfl; (with_reducible repeat (first | refine blk_drewN ?_ _ | refine blk_drew ?_ | refine blk_alloc ?_ _)); refine blk_put (cs := #[.int .i64 0, .string (⟨#[]⟩ : ByteArray), .string (⟨#[]⟩ : ByteArray)]) ?_ 0 _ rfl; (with_reducible repeat (first | refine blk_drewN ?_ _ | refine blk_drew ?_ | refine blk_alloc ?_ _)); exact BK149.out) Tryz.underlying45 rfl (by kernel_rfl)) rfl ?_
                          exact ⟨by first | rfl | (simp [errW_none, errW_some] <;> rfl) | (simp [*, errW_none, errW_some] <;> rfl), by repeat (first | (with_reducible first | exact HB.out | apply below_alloc | apply pw_below_drewN | apply below_drew1 | refine below_set ?_ GE149.out) | exact HB.out)⟩
                        · rw [if_neg c25] at H
                          exact absurd H (by simp)
          · rw [if_neg c11] at H
            exact absurd H (by simp)
        · rw [if_neg c9] at H
          exact absurd H (by simp)
end Go.Proofs.YtmjoebnphacadaaGreatDoor.Q
