-- printed by this project's own program wip/tools/mkprint.py (the kit's print.py with hand-proved contracts put in)
import Derived.Test.YtenededepjfojabDoorQx0
import Derived.Test.YtenededepjfojabDoorQx1
import Derived.Test.YtenededepjfojabDoorQx2
namespace Go.Proofs.YtenededepjfojabDoor.Q
open Go.RowKit Go.Proofs.YtenededepjfojabDoorW.PrintWords Go.Proofs.YtenededepjfojabDoorW.PrintLast Go.Proofs.YtenededepjfojabDoorW.PrintMore
attribute [local go_sem] max2_int min2_int max_two min_two max_three min_three max_four min_four   -- for this text's walks alone
set_option linter.unusedVariables false
set_option linter.unusedSimpArgs false

/-- A state of type 41 at block g of W; what its slices lead to came in by w0. -/
def IsS41 (w0 W : World) (g : Nat) (f0 : List Int) (f1 : Int) (f2 : Int) : Prop := ∃ A0 c0, W.heap[g]? = some (.cells #[.slice A0 f0.length c0, .int .i64 f1, .int .i8 f2] 41 (0, 0)) ∧ w0.heap.size ≤ g ∧ Kd.C (Kd.int .u8) w0 A0 f0.length f0
theorem IsS41.grown {w0 W : World} {g : Nat} {f0 : List Int} {f1 : Int} {f2 : Int} {W1 : World} {row : Option Nat} (h : IsS41 w0 W g f0 f1 f2) (hw : W.grownBy W1 row) (hne : some g ≠ row) : IsS41 w0 W1 g f0 f1 f2 := by
  obtain ⟨A0, c0, hb, hg, hr0⟩ := h
  exact ⟨A0, c0, blk_grown hb hw hne, hg, hr0⟩
theorem IsS41.own_neN {w0 W : World} {g : Nat} {f0 : List Int} {f1 : Int} {f2 : Int} {α : Type} {d : Kd α} {e : Nat} {base : Nat} {ok : Nat → Prop} {v : Value} {xs : List α} (h : IsS41 w0 W g f0 f1 f2) (ho : Kd.N d e W base ok v xs) (ht : e ≠ 41) : some g ≠ v.ownBlock := by
  obtain ⟨A0, c0, hb, hg, hr0⟩ := h
  exact Kd.N_ne ho hb ht
theorem IsS41.fresh {w0 W : World} {g : Nat} {f0 : List Int} {f1 : Int} {f2 : Int} (h : IsS41 w0 W g f0 f1 f2) : ∀ k, W.heap.size ≤ k → k ≠ g := by
  obtain ⟨A0, c0, hb, hg, hr0⟩ := h
  exact Kd.freshB hb
theorem IsS41.kept {w0 W : World} {g : Nat} {f0 : List Int} {f1 : Int} {f2 : Int} {W1 : World} {S : Nat → Prop} (h : IsS41 w0 W g f0 f1 f2) (hk : Kept W W1 S) (hne : ¬ S g) : IsS41 w0 W1 g f0 f1 f2 := by
  obtain ⟨A0, c0, hb, hg, hr0⟩ := h
  exact ⟨A0, c0, blk_kept hb hk hne, hg, hr0⟩
theorem IsS41.below {w0 W : World} {g : Nat} {f0 : List Int} {f1 : Int} {f2 : Int} {W1 : World} (h : IsS41 w0 W g f0 f1 f2) (hw : Below W.heap.size W W1) : IsS41 w0 W1 g f0 f1 f2 := h.grown (grown_of_below hw none) (by simp)
theorem IsS41.alloc {w0 W : World} {g : Nat} {f0 : List Int} {f1 : Int} {f2 : Int} (h : IsS41 w0 W g f0 f1 f2) (o : Obj) : IsS41 w0 (W.alloc o) g f0 f1 f2 := h.below (below_alloc (Below.refl _ _) o)
theorem IsS41.drewN {w0 W : World} {g : Nat} {f0 : List Int} {f1 : Int} {f2 : Int} (h : IsS41 w0 W g f0 f1 f2) (m : Nat) : IsS41 w0 (W.drewN m) g f0 f1 f2 := h
theorem IsS41.drew {w0 W : World} {g : Nat} {f0 : List Int} {f1 : Int} {f2 : Int} (h : IsS41 w0 W g f0 f1 f2) : IsS41 w0 W.drew g f0 f1 f2 := h
theorem IsS41.at_ {w0 W : World} {g : Nat} {f0 : List Int} {f1 : Int} {f2 : Int} {w' : World} {m : Nat} (hq : W.drewN m = w') (h : IsS41 w0 W g f0 f1 f2) : IsS41 w0 w' g f0 f1 f2 := by subst hq; exact IsS41.drewN h m
theorem IsS41.apart {w0 W : World} {g : Nat} {f0 : List Int} {f1 : Int} {f2 : Int} {α : Type} {d : Kd α} {e : Nat} {base : Nat} {ok : Nat → Prop} {v : Value} {xs : List α} (h : IsS41 w0 W g f0 f1 f2) (ho : d.R e W base ok v xs) (ht : ∀ q, q ∈ e :: d.E → q ≠ 41) : d.R e W base (fun k => ok k ∧ k ≠ g) v xs := by
  obtain ⟨A0, c0, hb, hg, hr0⟩ := h
  exact Kd.R_types ho hb ht
theorem IsS41.own_ne {w0 W : World} {g : Nat} {f0 : List Int} {f1 : Int} {f2 : Int} {α : Type} {d : Kd α} {e : Nat} {base : Nat} {ok : Nat → Prop} {v : Value} {xs : List α} (h : IsS41 w0 W g f0 f1 f2) (ho : d.R e W base ok v xs) (ht : e ≠ 41) : some g ≠ v.ownBlock := by
  obtain ⟨A0, c0, hb, hg, hr0⟩ := h
  exact Kd.R_ne ho hb ht
theorem IsS41.apartQ {w0 W : World} {g : Nat} {f0 : List Int} {f1 : Int} {f2 : Int} {α : Type} {d : Kd α} {e : Nat} {base : Nat} {ok : Nat → Prop} {v : Value} {xs : List α} (h : IsS41 w0 W g f0 f1 f2) (ho : d.Q e W base ok v xs) (ht : ∀ q, q ∈ e :: d.E → q ≠ 41) : d.Q e W base (fun k => ok k ∧ k ≠ g) v xs := by
  obtain ⟨A0, c0, hb, hg, hr0⟩ := h
  exact Kd.Q_types ho hb ht
theorem IsS41.own_neQ {w0 W : World} {g : Nat} {f0 : List Int} {f1 : Int} {f2 : Int} {α : Type} {d : Kd α} {e : Nat} {base : Nat} {ok : Nat → Prop} {v : Value} {xs : List α} (h : IsS41 w0 W g f0 f1 f2) (ho : d.Q e W base ok v xs) (ht : e ≠ 41) : some g ≠ v.ownBlock := by
  obtain ⟨A0, c0, hb, hg, hr0⟩ := h
  exact Kd.Q_ne ho hb ht
theorem IsS41.apartS {w0 W : World} {g : Nat} {f0 : List Int} {f1 : Int} {f2 : Int} {α : Type} {d : Kd α} {e : Nat} {base : Nat} {ok : Nat → Prop} {v : Value} {xs : List α} (h : IsS41 w0 W g f0 f1 f2) (ho : d.S e W base ok v xs) (ht : ∀ q, q ∈ e :: d.E → q ≠ 41) : d.S e W base (fun k => ok k ∧ k ≠ g) v xs := by
  obtain ⟨A0, c0, hb, hg, hr0⟩ := h
  exact Kd.S_types ho hb ht
theorem IsS41.own_neS {w0 W : World} {g : Nat} {f0 : List Int} {f1 : Int} {f2 : Int} {α : Type} {d : Kd α} {e : Nat} {base : Nat} {ok : Nat → Prop} {v : Value} {xs : List α} (h : IsS41 w0 W g f0 f1 f2) (ho : d.S e W base ok v xs) (ht : e ≠ 41) : some g ≠ v.ownBlock := by
  obtain ⟨A0, c0, hb, hg, hr0⟩ := h
  exact Kd.S_ne ho hb ht
theorem IsS41.lt {w0 W : World} {g : Nat} {f0 : List Int} {f1 : Int} {f2 : Int} (h : IsS41 w0 W g f0 f1 f2) : g < W.heap.size := by
  obtain ⟨A0, c0, hb, hg, hr0⟩ := h
  exact blk_lt hb
theorem IsS41.ge {w0 W : World} {g : Nat} {f0 : List Int} {f1 : Int} {f2 : Int} (h : IsS41 w0 W g f0 f1 f2) : w0.heap.size ≤ g := by
  obtain ⟨A0, c0, hb, hg, hr0⟩ := h
  exact hg
theorem IsS41.ne_blk {w0 W : World} {g : Nat} {f0 : List Int} {f1 : Int} {f2 : Int} {a : Nat} {cs : Array Value} {t : TypeId} {fr : Nat × Nat} (h : IsS41 w0 W g f0 f1 f2) (hb2 : W.heap[a]? = some (.cells cs t fr)) (ht : t ≠ 41) : g ≠ a := by
  obtain ⟨A0, c0, hb, hg, hr0⟩ := h
  rintro rfl
  rw [hb] at hb2
  injection hb2 with hb2
  injection hb2 with _ ht2
  exact ht ht2.symm
theorem IsS41.far {w0 W : World} {g : Nat} {f0 : List Int} {f1 : Int} {f2 : Int} {p : Addr} (h : IsS41 w0 W g f0 f1 f2) (hne : g ≠ p.block) (u : Value) : IsS41 w0 (W.setCell p u) g f0 f1 f2 := by
  obtain ⟨A0, c0, hb, hg, hr0⟩ := h
  exact ⟨A0, c0, blk_far hb hne u, hg, hr0⟩
theorem cellS41_0 {W : World} {g : Nat} {A0 : Option Addr} {c0 : Nat} {f0 : List Int} {f1 : Int} {f2 : Int} (h : W.heap[g]? = some (.cells #[.slice A0 f0.length c0, .int .i64 f1, .int .i8 f2] 41 (0, 0))) : W.cell? ⟨g, 0, none⟩ = some (.slice A0 f0.length c0) := (blk_cell h 0).trans rfl
theorem cellS41_1 {W : World} {g : Nat} {A0 : Option Addr} {c0 : Nat} {f0 : List Int} {f1 : Int} {f2 : Int} (h : W.heap[g]? = some (.cells #[.slice A0 f0.length c0, .int .i64 f1, .int .i8 f2] 41 (0, 0))) : W.cell? ⟨g, 1, none⟩ = some (.int .i64 f1) := (blk_cell h 1).trans rfl
theorem IsS41.set_1 {w0 W : World} {g : Nat} {f0 : List Int} {f1 : Int} {f2 : Int} (h : IsS41 w0 W g f0 f1 f2) (x : Int) : IsS41 w0 (W.setCell ⟨g, 1, none⟩ (.int .i64 x)) g f0 x f2 := by
  obtain ⟨A0, c0, hb, hg, hr0⟩ := h
  exact ⟨A0, c0, by simpa using blk_set hb 1 (.int .i64 x), hg, hr0⟩
theorem cellS41_2 {W : World} {g : Nat} {A0 : Option Addr} {c0 : Nat} {f0 : List Int} {f1 : Int} {f2 : Int} (h : W.heap[g]? = some (.cells #[.slice A0 f0.length c0, .int .i64 f1, .int .i8 f2] 41 (0, 0))) : W.cell? ⟨g, 2, none⟩ = some (.int .i8 f2) := (blk_cell h 2).trans rfl
theorem IsS41.set_2 {w0 W : World} {g : Nat} {f0 : List Int} {f1 : Int} {f2 : Int} (h : IsS41 w0 W g f0 f1 f2) (x : Int) : IsS41 w0 (W.setCell ⟨g, 2, none⟩ (.int .i8 x)) g f0 f1 x := by
  obtain ⟨A0, c0, hb, hg, hr0⟩ := h
  exact ⟨A0, c0, by simpa using blk_set hb 2 (.int .i8 x), hg, hr0⟩
theorem IsS41.new (w0 W : World) (A0 : Option Addr) (c0 : Nat) (f0 : List Int) (f1 : Int) (f2 : Int) (hB : Below w0.heap.size w0 W) (hr0 : Kd.C (Kd.int .u8) w0 A0 f0.length f0) : IsS41 w0 (W.alloc (.cells #[.slice A0 f0.length c0, .int .i64 f1, .int .i8 f2] 41)) W.heap.size f0 f1 f2 := ⟨A0, c0, by simpa using heap_alloc_new W _, hB.size, hr0⟩

/-! ### bytes_Buffer_Len: function 28 -/
def bytes_Buffer_Len.f (s0_0 : List Int) (s0_1 : Int) (s0_2 : Int) : Option (Int × Int × Int) := some (wrap64 ((s0_0.length : Int) - s0_1), s0_1, s0_2)
set_option maxHeartbeats 8000000 in
set_option maxRecDepth 100000 in
theorem bytes_Buffer_Len.calls (g : Nat) (s0_0 : List Int) (s0_1 : Int) (s0_2 : Int) (r1 : Int) (r2 : Int) (r3 : Int) (w0 w : World) (hI : IsS41 w0 w g s0_0 s0_1 s0_2) (hB : Below w0.heap.size w0 w) (h : bytes_Buffer_Len.f s0_0 s0_1 s0_2 = some (r1, r2, r3)) :
    Calls Tryd.prog 28 #[.pointer (some ⟨g, 0, none⟩)] w fun e w' => e = .returned (.int .i64 r1) ∧ IsS41 w0 w' g s0_0 r2 r3 ∧ Below w0.heap.size w0 w' ∧ KeepBut w w' g none := by
  have HI0 := Aside0.mk hI
  have HK := Aside0.mk (KeepBut.refl w g none)
  have HL := Aside0.mk hB.size
  clear hI
  have HW0 := Aside0.mk hB.size
  have HB := Aside0.mk hB
  clear hB
  have H : (some (wrap64 ((s0_0.length : Int) - s0_1), s0_1, s0_2)) = some (r1, r2, r3) := h
  clear h
  simp only [Option.some.injEq, Prod.mk.injEq] at H
  obtain ⟨rfl, rfl, rfl⟩ := H
  obtain ⟨ASz2_0, cSz2_0, HGz2, hgz2, HSz2_0⟩ := HI0.out
  have hcz2_0 := cellS41_0 HGz2
  have hcz2_1 := cellS41_1 HGz2
  have hcz2_2 := cellS41_2 HGz2
  have hfz2_1 := blk_frozen HGz2 1
  have hfz2_2 := blk_frozen HGz2 2
  clear HGz2 hgz2
  go_enter Tryd.func28, Tryd.ntmps28
  go_wp2
  repeat (go_quiet (fail); try go_wp2)
  go_ret
  exact ⟨by first | rfl | (simp [errW_none, errW_some] <;> rfl) | (simp [*, errW_none, errW_some] <;> rfl), by repeat (first | (with_reducible first | exact HI0.out | apply IsS41.alloc | apply IsS41.drewN | apply IsS41.drew | apply IsS41.set_1 | apply IsS41.set_2) | exact HI0.out), by repeat (first | (with_reducible first | exact HB.out | apply below_alloc | apply pw_below_drewN | apply below_drew1 | refine below_set ?_ (IsS41.ge HI0.out)) | exact HB.out), by repeat (first | (with_reducible first | exact HK.out | apply KeepBut.set_ | apply keep_drewN | apply keep_drew | apply keep_alloc) | exact HK.out)⟩

-- NOT PRINTED: function 29 (bytes_Buffer_Reset)

-- NOT PRINTED: function 30 (bytes_growSlice)

-- NOT PRINTED: function 23 (bytes_Buffer_grow)

-- NOT PRINTED: function 13 (bytes_Buffer_WriteByte)

-- NOT PRINTED: function 14 (bytes_Buffer_WriteString)

-- NOT PRINTED: function 15 (bytes_Buffer_String)

/-! ### labels_Matchers_String: function 10 -/
-- contracts that were proved by hand
def zMatS : S52 := ⟨0, ⟨#[]⟩, ⟨#[]⟩⟩
theorem kMatS_at {w : World} {A : Option Addr} {n : Nat} {l : List S52} (h : Kd.C kMat w A n l) (i : Int) (h0 : 0 ≤ i) (h1 : i < n) :
    ∃ ad g, A = some ad ∧ w.cell? (ad.add i.toNat) = some (.pointer (some ⟨g, 0, none⟩)) ∧ w.heap[g]? = some (.cells #[.int .i64 (l.getD i.toNat zMatS).f0, .string (l.getD i.toNat zMatS).f1, .string (l.getD i.toNat zMatS).f2] 52 (0, 0)) := by
  obtain ⟨ad, c, e, _, hK, hc0⟩ := Kd.C_get h zMatS i h0 h1
  obtain ⟨g, rfl, hb⟩ := kMat_open hK
  refine ⟨ad, g, e, ?_, hb⟩
  have := hc0 0 _ rfl
  simpa [kMat, Box.box] using this
/-- What the matchers of a list are written as. -/
def mtexts (k : Nat) : List S52 → Option (List (List UInt8))
  | [] => some []
  | a :: r => (mtext k a.f0 a.f1 a.f2).bind fun t => (mtexts k r).map fun q => t.data.toList :: q
theorem mtexts_mono (k : Nat) : ∀ l, LeO (mtexts k l) (mtexts (k + 1) l)
  | [] => fun r h => h
  | a :: l => fun r h => by
    unfold mtexts at h ⊢
    obtain ⟨t, ht, h⟩ := Option.bind_eq_some_iff.1 h
    obtain ⟨q, hq, h⟩ := Option.map_eq_some_iff.1 h
    rw [mtext_mono _ _ _ k t ht, mtexts_mono k l q hq]
    subst h
    rfl
theorem mtexts_at (k : Nat) : ∀ (l : List S52) {ts : List (List UInt8)}, mtexts k l = some ts → ts.length = l.length ∧ ∀ (j : Nat), j < l.length → ∃ t, mtext k (l.getD j zMatS).f0 (l.getD j zMatS).f1 (l.getD j zMatS).f2 = some t ∧ ts[j]? = some t.data.toList
  | [], ts, h => by
    obtain rfl := Option.some.inj h
    exact ⟨rfl, fun j hj => absurd hj (Nat.not_lt_zero _)⟩
  | a :: l, ts, h => by
    unfold mtexts at h
    obtain ⟨t, ht, h⟩ := Option.bind_eq_some_iff.1 h
    obtain ⟨q, hq, h⟩ := Option.map_eq_some_iff.1 h
    obtain ⟨h1, h2⟩ := mtexts_at k l hq
    subst h
    refine ⟨by simp [h1], fun j hj => ?_⟩
    cases j with
    | zero => exact ⟨t, ht, rfl⟩
    | succ j => exact h2 j (by simpa using hj)
theorem join_take (ts : List (List UInt8)) (sep : List UInt8) (j : Nat) (t : List UInt8) (h : ts[j]? = some t) : Go.Lib.join (ts.take (j + 1)) sep = if j = 0 then t else Go.Lib.join (ts.take j) sep ++ sep ++ t := by
  have hj : j < ts.length := (List.getElem?_eq_some_iff.1 h).1
  have e : ts.take (j + 1) = ts.take j ++ [t] := by rw [List.take_add_one, h]; rfl
  by_cases h0 : j = 0
  · subst h0
    rw [e, if_pos rfl, List.take_zero, List.nil_append, Go.Lib.join_one]
  · rw [e, if_neg h0]
    have hne : ts.take j ≠ [] := fun hn => by
      have := congrArg List.length hn
      rw [List.length_take, List.length_nil] at this
      omega
    obtain ⟨y, r, hy⟩ := List.exists_cons_of_ne_nil hne
    rw [hy, List.cons_append, Go.Lib.join_cons, Go.Lib.join_cons]
    simp [Go.Lib.joinTail, List.append_assoc]
theorem join_take_len (ts : List (List UInt8)) (sep : List UInt8) : ∀ d j, j + d = ts.length → (Go.Lib.join (ts.take j) sep).length ≤ (Go.Lib.join ts sep).length
  | 0, j, h => by rw [List.take_of_length_le (by omega)]; exact Nat.le_refl _
  | d + 1, j, h => by
    refine Nat.le_trans ?_ (join_take_len ts sep d (j + 1) (by omega))
    rw [join_take ts sep j (ts[j]'(by omega)) (by simp)]
    by_cases h0 : j = 0
    · subst h0
      rw [List.take_zero, Go.Lib.join_nil]
      exact Nat.zero_le _
    · rw [if_neg h0]
      simp only [List.length_append]
      omega
open Go.Lib Go.Proofs.YtenededepjfojabDoor.Door in
set_option maxHeartbeats 4000000 in
set_option maxRecDepth 100000 in
theorem labels_Matchers_String.calls (A0 : Option Addr) (c0 : Nat) (l : List S52) (k : Nat) (ts : List (List UInt8)) (w : World) (hr : Kd.C kMat w A0 l.length l) (hl : l.length ≤ maxLen) (hT_ : PT w)
    (h : mtexts k l = some ts) (hs : (Go.Lib.join ts [44]).length ≤ 140737488355300) :
    Calls Tryd.prog 10 #[.slice A0 l.length c0] w fun e w' => e = .returned (.string ⟨(123 :: Go.Lib.join ts [44] ++ [125]).toArray⟩) ∧ Below w.heap.size w w' := by
  obtain ⟨hlen, hat⟩ := mtexts_at k l h
  have HA := Aside0.mk hat
  have HR := Aside0.mk hr
  have HT := Aside0.mk hT_
  have HL := Aside0.mk hlen
  have HS := Aside0.mk hs
  have JL := Aside0.mk (fun j (hj : j ≤ l.length) => join_take_len ts [44] (ts.length - j) j (by omega))
  have JT := Aside0.mk (join_take ts [44])
  unfold maxLen at hl
  clear hat hr hT_ h hs hlen
  go_enter Tryd.func10, Tryd.ntmps10
  go_wp2_with fail
  refine (buf_byte (w0 := w) (b := w.heap.size) (l := []) (buf_new w) 123 123 rfl (by simp)).mono ?_
  rintro e w1 ⟨rfl, hb⟩
  have HB := Aside0.mk hb
  clear hb
  go_wp2
  go_loopw [9] (fun v9 wr => ∃ j : Nat, j ≤ l.length ∧ v9 = .int .i64 j ∧ Aside0 (Buf w w.heap.size (123 :: Go.Lib.join (ts.take j) [44]) wr)) (fun v9 _ => l.length - (intOf v9).toNat)
  case atStart => exact ⟨0, Nat.zero_le _, rfl, HB⟩
  case round =>
    clear HB
    obtain ⟨j, hj, rfl, HB⟩ := hrel
    by_cases hlt : j < l.length
    · obtain ⟨ad, g, e0, hx, hg0⟩ := kMatS_at HR.out (j : Int) (by omega) (by omega)
      cases e0
      simp only [Int.toNat_natCast] at hx hg0
      have hgl := (Array.getElem?_eq_some_iff.1 hg0).1
      replace hx := (HB.out.below.cell (World.block_lt_of_cell? w _ hx)).trans hx
      obtain ⟨t, ht, hts⟩ := HA.out j hlt
      have hjt := JT.out j _ hts
      have h1 := JL.out (j + 1) (by omega)
      have HMS := Aside0.mk (fun W hP hG => matcher_string k _ _ _ t g W hP hG ht)
      have HG := Aside0.mk (fun W (hW : Below w.heap.size w W) => (hW.block g hgl).trans hg0)
      have hs := HS.out
      clear ht hts hg0 hgl
      by_cases h0 : j = 0
      · rw [if_pos h0] at hjt
        have e0 : Go.Lib.join (ts.take j) [44] = [] := by rw [h0, List.take_zero, Go.Lib.join_nil]
        have h2 : (Go.Lib.join (ts.take j) [44]).length + t.size ≤ 140737488355300 := by
          rw [hjt] at h1
          have : t.data.toList.length = t.size := rfl
          rw [e0, List.length_nil]
          omega
        have HJ := Aside0.mk hjt
        have H2 := Aside0.mk h2
        have HE0 := Aside0.mk e0
        have hnot : ¬ (0 : Int) < (j : Int) := by omega
        clear hjt h1 hs h2 e0 h0
        go_wp2_with fail
        refine (HMS.out wr (PT.below HT.out HB.out.below) (HG.out _ HB.out.below)).mono ?_
        rintro e w2 ⟨rfl, hb⟩
        have HB2 := Aside0.mk (HB.out.old hb)
        clear hb HB HMS HG
        go_wp2_with fail
        refine (buf_text HB2.out t (by have := H2.out; simp only [List.length_cons]; omega)).mono ?_
        rintro e w3 ⟨rfl, hb⟩
        have HB3 := Aside0.mk (show Buf w w.heap.size (123 :: Go.Lib.join (ts.take (j + 1)) [44]) w3 by rw [HJ.out]; rw [HE0.out] at hb; simpa using hb)
        clear hb HB2
        go_wp2
        go_roundw
        case rel => exact ⟨j + 1, by omega, by go_num, HB3⟩
        case measure => simp [intOf]; omega
      · rw [if_neg h0] at hjt
        have h2 : (Go.Lib.join (ts.take j) [44]).length + 1 + t.size ≤ 140737488355300 := by
          rw [hjt] at h1
          have : t.data.toList.length = t.size := rfl
          simp only [List.length_append, List.length_cons, List.length_nil] at h1
          omega
        have HJ := Aside0.mk hjt
        have H2 := Aside0.mk h2
        have hpos : (0 : Int) < (j : Int) := by omega
        clear hjt h1 hs h2 h0
        go_wp2_with fail
        refine (buf_byte HB.out 44 44 rfl (by have := H2.out; simp only [List.length_cons]; omega)).mono ?_
        rintro e w1 ⟨rfl, hb⟩
        have HB1 := Aside0.mk hb
        clear hb HB
        go_wp2_with fail
        refine (HMS.out w1 (PT.below HT.out HB1.out.below) (HG.out _ HB1.out.below)).mono ?_
        rintro e w2 ⟨rfl, hb⟩
        have HB2 := Aside0.mk (HB1.out.old hb)
        clear hb HB1 HMS HG
        go_wp2_with fail
        refine (buf_text HB2.out t (by have := H2.out; simp only [List.length_append, List.length_cons, List.length_nil]; omega)).mono ?_
        rintro e w3 ⟨rfl, hb⟩
        have HB3 := Aside0.mk (show Buf w w.heap.size (123 :: Go.Lib.join (ts.take (j + 1)) [44]) w3 by rw [HJ.out]; simpa [List.append_assoc] using hb)
        clear hb HB2
        go_wp2
        go_roundw
        case rel => exact ⟨j + 1, by omega, by go_num, HB3⟩
        case measure => simp [intOf]; omega
    · have hj2 : j = l.length := by omega
      subst hj2
      have h1 := JL.out l.length (Nat.le_refl _)
      have hs := HS.out
      have e1 : ts.take l.length = ts := List.take_of_length_le (by rw [HL.out]; exact Nat.le_refl _)
      have HB1 := Aside0.mk (show Buf w w.heap.size (123 :: Go.Lib.join ts [44]) wr by have := HB.out; rwa [e1] at this)
      clear HB e1 h1 hs
      go_wp2_with fail
      refine (buf_byte HB1.out 125 125 rfl (by have := HS.out; simp only [List.length_cons]; omega)).mono ?_
      rintro e w2 ⟨rfl, hb⟩
      have HB2 := Aside0.mk hb
      clear hb HB1
      go_wp2_with fail
      refine (buf_end HB2.out).mono ?_
      rintro e w3 ⟨rfl, hb⟩
      have HB3 := Aside0.mk hb
      clear hb HB2
      go_wp2
      go_ret
      exact ⟨rfl, HB3.out⟩


/-! ### impl_PrintMatchers: function 5 -/
-- a contract that was proved by hand
def impl_PrintMatchers.f (k : Nat) (l0 : List S26) : Option ByteArray :=
  if l0.length ≤ 17592186044416 then (mtexts k (l0.map toMat)).bind fun ts => if (Go.Lib.join ts [44]).length ≤ 140737488355300 then some ⟨(123 :: Go.Lib.join ts [44] ++ [125]).toArray⟩ else none else none
theorem impl_PrintMatchers.mono : ∀ l0 k, LeO (impl_PrintMatchers.f k l0) (impl_PrintMatchers.f (k + 1) l0) := by
  intro l k r h
  unfold impl_PrintMatchers.f at h ⊢
  by_cases hl : l.length ≤ 17592186044416
  · rw [if_pos hl] at h ⊢
    obtain ⟨ts, ht, h⟩ := Option.bind_eq_some_iff.1 h
    rw [mtexts_mono k _ ts ht]
    exact h
  · rw [if_neg hl] at h
    cases h
open Go.Lib Go.Proofs.YtenededepjfojabDoor.Door in
set_option maxHeartbeats 1600000 in
theorem impl_PrintMatchers.calls (k : Nat) (A0 : Option Addr) (c0 : Nat) (l0 : List S26) (r : ByteArray) (w : World) (hr0 : Kd.C k26 w A0 l0.length l0) (hc0 : l0.length ≤ c0) (hT_ : PT w) (h : impl_PrintMatchers.f k l0 = some r) :
    Calls Tryd.prog 5 #[.slice A0 l0.length c0] w fun e w' => e = .returned (.string r) ∧ Below w.heap.size w w' := by
  unfold impl_PrintMatchers.f at h
  by_cases hl : l0.length ≤ 17592186044416
  · rw [if_pos hl] at h
    obtain ⟨ts, ht, h⟩ := Option.bind_eq_some_iff.1 h
    by_cases hs : (Go.Lib.join ts [44]).length ≤ 140737488355300
    · rw [if_pos hs] at h
      obtain rfl := Option.some.inj h
      have C0 := Aside0.mk (impl_inners.calls A0 c0 l0 w hr0 hc0 hl)
      have hlm : (l0.map toMat).length ≤ maxLen := by rw [List.length_map]; unfold maxLen; omega
      generalize l0.map toMat = l at *
      have HQ := Aside0.mk (fun A c W hC hP => labels_Matchers_String.calls A c l k ts W hC hlm hP ht hs)
      have HT := Aside0.mk hT_
      clear h ht hs hlm hr0 hc0 hl hT_
      go_enter Tryd.func5, Tryd.ntmps5
      go_wp2_with fail
      refine C0.out.mono ?_
      rintro e w1 ⟨v, rfl, hO, hB⟩
      obtain ⟨A, c, rfl, hlc, hC⟩ := Kd.R_reads hO
      have HC := Aside0.mk hC
      have HB := Aside0.mk hB
      clear hO hB hC hlc
      go_wp2_with fail
      refine (HQ.out A c w1 HC.out (PT.below HT.out HB.out)).mono ?_
      rintro e w2 ⟨rfl, hb⟩
      have HB2 := Aside0.mk (below_step HB.out hb)
      clear hb
      go_wp2
      go_ret
      exact ⟨rfl, HB2.out⟩
    · rw [if_neg hs] at h
      cases h
  · rw [if_neg hl] at h
    cases h


/-! ### impl_PrintMatcher: function 6 -/
-- a contract that was proved by hand
def impl_PrintMatcher.f (k : Nat) (a0_0 : Int) (a0_1 a0_2 : ByteArray) : Option ByteArray := mtext k a0_0 a0_1 a0_2
theorem impl_PrintMatcher.mono : ∀ a0_0 a0_1 a0_2 k, LeO (impl_PrintMatcher.f k a0_0 a0_1 a0_2) (impl_PrintMatcher.f (k + 1) a0_0 a0_1 a0_2) := mtext_mono
open Go.Lib Go.Proofs.YtenededepjfojabDoor.Door in
theorem impl_PrintMatcher.calls (k : Nat) (a0_0 : Int) (a0_1 a0_2 : ByteArray) (r : ByteArray) (w : World) (hT_ : PT w) (h : impl_PrintMatcher.f k a0_0 a0_1 a0_2 = some r) :
    Calls Tryd.prog 6 #[.agg #[.int .i64 a0_0, .string a0_1, .string a0_2]] w fun e w' => e = .returned (.string r) ∧ Below w.heap.size w w' := by
  have HM := Aside0.mk (fun B W (hP : PT W) hB => matcher_string k a0_0 a0_1 a0_2 r B W hP hB h)
  have HT := Aside0.mk hT_
  clear h hT_
  go_enter Tryd.func6, Tryd.ntmps6
  go_wp2_with fail
  refine (impl_inner.calls a0_0 a0_1 a0_2 _).mono ?_
  rintro e w1 ⟨g, rfl, _, hg, hb⟩
  have HB := Aside0.mk (below_step ((Below.refl w.heap.size w).alloc (Nat.le_refl _) _) hb)
  have HG := Aside0.mk hg
  clear hb hg
  go_wp2_with fail
  refine (HM.out g w1 (PT.below HT.out HB.out) HG.out).mono ?_
  rintro e w2 ⟨rfl, hb⟩
  have HB2 := Aside0.mk (below_step HB.out hb)
  clear hb
  go_wp2
  go_ret
  exact ⟨rfl, HB2.out⟩


/-! ### laws_joined: function 7 -/
def laws_joined.l0 : Nat → ByteArray → ByteArray → List ByteArray → Int → Int → Option (ByteArray)
  | 0, _, _, _, _, _ => none
  | k + 1, x1, x5, x8, x9, x10 => if x10 < x9 then (if 0 ≤ x10 then (if x10 < (x8.length : Int) then (if x10 > 0 then (if x5.size + x1.size ≤ 9223372036854775807 then (if (x5 ++ x1).size + (rdOf ByteArray.empty x8 x10).size ≤ 9223372036854775807 then (laws_joined.l0 k x1 ((x5 ++ x1) ++ (rdOf ByteArray.empty x8 x10)) x8 x9 (wrap64 (x10 + 1))) else (none)) else (none)) else (if x5.size + (rdOf ByteArray.empty x8 x10).size ≤ 9223372036854775807 then (laws_joined.l0 k x1 (x5 ++ (rdOf ByteArray.empty x8 x10)) x8 x9 (wrap64 (x10 + 1))) else (none))) else (none)) else (none)) else (some x5)
def laws_joined.f (k : Nat) (l0 : List ByteArray) (a1 : ByteArray) : Option (ByteArray) := laws_joined.l0 k a1 (⟨#[]⟩ : ByteArray) l0 (l0.length : Int) 0
theorem laws_joined.mono_l : ∀ k, (∀ y0 y1 y2 y3 y4, LeO (laws_joined.l0 k y0 y1 y2 y3 y4) (laws_joined.l0 (k + 1) y0 y1 y2 y3 y4))
  | 0 => fun _ _ _ _ _ r h => by simp [laws_joined.l0] at h
  | k + 1 => by
    have ih0 := laws_joined.mono_l k
    · intro y0 y1 y2 y3 y4
      unfold laws_joined.l0
      repeat' first
      | (with_reducible exact ih0 _ _ _ _ _)
      | (with_reducible exact LeO.refl _)
      | (with_reducible exact LeO.none _)
      | (with_reducible refine LeO.ite ?_ ?_)
      | (with_reducible refine LeO.bind ?_ (fun _ => ?_))
      | exact ih0 _ _ _ _ _
      | exact LeO.none _
      | refine LeO.ite ?_ ?_
      | refine LeO.bind ?_ (fun _ => ?_)
theorem laws_joined.mono : ∀ a0 a1 k, LeO (laws_joined.f k a0 a1) (laws_joined.f (k + 1) a0 a1) := by
  intro a0 a1 k
  have ih0 := laws_joined.mono_l k
  unfold laws_joined.f
  repeat' first
      | (with_reducible exact ih0 _ _ _ _ _)
      | (with_reducible exact LeO.refl _)
      | (with_reducible exact LeO.none _)
      | (with_reducible refine LeO.ite ?_ ?_)
      | (with_reducible refine LeO.bind ?_ (fun _ => ?_))
      | exact ih0 _ _ _ _ _
      | exact LeO.none _
      | refine LeO.ite ?_ ?_
      | refine LeO.bind ?_ (fun _ => ?_)
set_option maxHeartbeats 8000000 in
set_option maxRecDepth 100000 in
theorem laws_joined.calls (k : Nat) (A0 : Option Addr) (c0 : Nat) (l0 : List ByteArray) (a1 : ByteArray) (r : ByteArray) (w : World) (hr0 : Kd.C Kd.string w A0 l0.length l0) (hc0 : l0.length ≤ c0) (h : laws_joined.f k l0 a1 = some r) :
    Calls Tryd.prog 7 #[.slice A0 l0.length c0, .string a1] w fun e w' => e = .returned (.string r) ∧ Drawn0 w w' := by
  have HR0 := Aside0.mk hr0
  have HC0 := Aside0.mk hc0
  clear hr0 hc0
  have H : (laws_joined.l0 k a1 (⟨#[]⟩ : ByteArray) l0 (l0.length : Int) 0) = some r := h
  clear h
  have H' := Aside0.mk H
  clear H
  go_enter Tryd.func7, Tryd.ntmps7
  go_wp2
  go_loopg [5, 10] k (fun kq v5 v10 w' => ∃ (x5_1 : ByteArray) (x10_1 : Int), v5 = .string x5_1 ∧ v10 = .int .i64 x10_1 ∧ Aside0 (laws_joined.l0 kq a1 x5_1 l0 (l0.length : Int) x10_1 = some r) ∧ Aside0 (kq ≤ k) ∧ Drawn0 w w')
  case atStart => exact ⟨((⟨#[]⟩ : ByteArray)), (0), (by first | rfl | (simp; done) | (simp [*]; done)), (by first | rfl | (simp; done) | (simp [*]; done)), H', ⟨Nat.le_refl _⟩, by repeat (first | exact Drawn0.refl _ | apply Drawn0.step)⟩
  case round =>
    clear H'
    try clear p2
    obtain ⟨x5_1, x10_1, rfl, rfl, HA, HK1, ⟨m1, rfl⟩⟩ := hrel
    cases gk with
    | zero => exact absurd HA.out (by simp [laws_joined.l0])
    | succ k1 =>
      have H := HA.out
      clear HA
      simp only [laws_joined.l0] at H
      by_cases c3 : x10_1 < (l0.length : Int)
      · rw [if_pos c3] at H
        have c3b0 : decide (x10_1 < (l0.length : Int)) = true := decide_eq_true c3
        clear c3
        by_cases c4 : 0 ≤ x10_1
        · rw [if_pos c4] at H
          have c4b0 : decide (0 ≤ x10_1) = true := decide_eq_true c4
          clear c4
          by_cases c5 : x10_1 < (l0.length : Int)
          · rw [if_pos c5] at H
            have c5b0 : decide (x10_1 < (l0.length : Int)) = true := decide_eq_true c5
            clear c5
            by_cases c6 : x10_1 > 0
            · rw [if_pos c6] at H
              have c6b0 : decide (0 < x10_1) = true := decide_eq_true c6
              clear c6
              by_cases c7 : x5_1.size + a1.size ≤ 9223372036854775807
              · rw [if_pos c7] at H
                have c7b0 := eq_true c7
                have c7b1 : decide (x5_1.size + a1.size ≤ 9223372036854775807) = true := decide_eq_true c7
                try have c7b2 : (9223372036854775807 < x5_1.size + a1.size) = False := eq_false (Nat.not_lt.2 c7)
                by_cases c8 : (x5_1 ++ a1).size + (rdOf ByteArray.empty l0 x10_1).size ≤ 9223372036854775807
                · rw [if_pos c8] at H
                  have c8b0 := eq_true c8
                  have c8b1 : decide ((x5_1 ++ a1).size + (rdOf ByteArray.empty l0 x10_1).size ≤ 9223372036854775807) = true := decide_eq_true c8
                  try have c8b2 : (9223372036854775807 < (x5_1 ++ a1).size + (rdOf ByteArray.empty l0 x10_1).size) = False := eq_false (Nat.not_lt.2 c8)
                  try have c8b3 := c8b2
                  try simp only [ByteArray.size_append] at c8b3
                  have H' := Aside0.mk H
                  clear H
                  have p134 : 0 ≤ (x10_1 : Int) := of_decide_eq_true (by first | (with_reducible assumption) | assumption)
                  have q134 : x10_1 < (l0.length : Int) := of_decide_eq_true (by first | (with_reducible assumption) | assumption)
                  obtain ⟨ad134, e134, hx134_0⟩ := Kd.at_string HR0.out x10_1 p134 q134
                  cases e134
                  replace p134 := eq_true p134
                  replace q134 := eq_true q134
                  go_wp2
                  go_roundg k1
                  case measure => have := HK1.out; omega
                  case rel => exact ⟨((x5_1 ++ a1) ++ (rdOf ByteArray.empty l0 x10_1)), (wrap64 (x10_1 + 1)), (by first | rfl | (simp; done) | (simp [*]; done)), (by first | rfl | (simp; done) | (simp [*]; done)), H', ⟨by have := HK1.out; omega⟩, by repeat (first | exact Drawn0.refl _ | apply Drawn0.step)⟩
                · rw [if_neg c8] at H
                  exact absurd H (by simp)
              · rw [if_neg c7] at H
                exact absurd H (by simp)
            · rw [if_neg c6] at H
              have c6b0 : decide (0 < x10_1) = false := decide_eq_false c6
              clear c6
              by_cases c9 : x5_1.size + (rdOf ByteArray.empty l0 x10_1).size ≤ 9223372036854775807
              · rw [if_pos c9] at H
                have c9b0 := eq_true c9
                have c9b1 : decide (x5_1.size + (rdOf ByteArray.empty l0 x10_1).size ≤ 9223372036854775807) = true := decide_eq_true c9
                try have c9b2 : (9223372036854775807 < x5_1.size + (rdOf ByteArray.empty l0 x10_1).size) = False := eq_false (Nat.not_lt.2 c9)
                have H' := Aside0.mk H
                clear H
                have p134 : 0 ≤ (x10_1 : Int) := of_decide_eq_true (by first | (with_reducible assumption) | assumption)
                have q134 : x10_1 < (l0.length : Int) := of_decide_eq_true (by first | (with_reducible assumption) | assumption)
                obtain ⟨ad134, e134, hx134_0⟩ := Kd.at_string HR0.out x10_1 p134 q134
                cases e134
                replace p134 := eq_true p134
                replace q134 := eq_true q134
                go_wp2
                go_roundg k1
                case measure => have := HK1.out; omega
                case rel => exact ⟨(x5_1 ++ (rdOf ByteArray.empty l0 x10_1)), (wrap64 (x10_1 + 1)), (by first | rfl | (simp; done) | (simp [*]; done)), (by first | rfl | (simp; done) | (simp [*]; done)), H', ⟨by have := HK1.out; omega⟩, by repeat (first | exact Drawn0.refl _ | apply Drawn0.step)⟩
              · rw [if_neg c9] at H
                exact absurd H (by simp)
          · rw [if_neg c5] at H
            exact absurd H (by simp)
        · rw [if_neg c4] at H
          exact absurd H (by simp)
      · rw [if_neg c3] at H
        have c3b0 : decide (x10_1 < (l0.length : Int)) = false := decide_eq_false c3
        clear c3
        obtain rfl := Option.some.inj H
        go_wp2
        go_ret
        exact ⟨by first | rfl | (simp; done) | (simp [*]; done), by repeat (first | exact Drawn0.refl _ | apply Drawn0.step)⟩

end Go.Proofs.YtenededepjfojabDoor.Q
