/- What came in, read kind by kind: whatever can be read as data of a type is a value of its kind, within the bounds of the model. -/
import Derived.Deep.Slices
import Derived.Deep.Fields
import Derived.ChangeSame
import Derived.Test.YtbcgcfdpblhddaaDoorWWords
set_option linter.unusedVariables false
set_option linter.unusedSimpArgs false
namespace Go.Proofs.YtbcgcfdpblhddaaDoor.Read
open Go.ChangeShapes Go.WideShapes Go.Deep Go.RowKit Go.Proofs.YtbcgcfdpblhddaaDoorW.PrintWords

/-- Whatever is read as data of type t is of kind k, and fulfills Q. -/
def Rd {α : Type} (P : Program) (t : TypeId) (k : Kd α) (Q : α → Prop) : Prop :=
  ∀ (H : Type) (enc : TypeId × Value → H) (w : World) (base : Nat) (sp : Nat → Bool) (held : Bool) (fuel : Nat) (cs : List Value) (x : DataW H × List MemPlace),
    DataW.trod enc P w base sp held fuel t cs = some x → ∃ a, k.K w a cs ∧ Q a

theorem Rd.int {P : Program} {t : TypeId} {q : IntKind} (ht : P.underlying t = some (.int q)) : Rd P t (Kd.int q) (fun n => (Lit.int q n).wf = true) := by
  intro H enc w base sp held fuel cs x h
  obtain ⟨n, rfl, _, hw⟩ := DataW.trod_int ht h
  exact ⟨n, rfl, hw⟩
theorem Rd.bool {P : Program} {t : TypeId} (ht : P.underlying t = some .bool) : Rd P t Kd.bool (fun _ => True) := by
  intro H enc w base sp held fuel cs x h
  obtain ⟨n, rfl, _⟩ := DataW.trod_bool ht h
  exact ⟨n, rfl, trivial⟩
theorem Rd.string {P : Program} {t : TypeId} (ht : P.underlying t = some .string) : Rd P t Kd.string (fun s => s.size ≤ maxLen) := by
  intro H enc w base sp held fuel cs x h
  obtain ⟨n, rfl, _, hw⟩ := DataW.trod_string ht h
  exact ⟨n, rfl, hw⟩
theorem Rd.iso {α β : Type} {P : Program} {t : TypeId} {k : Kd α} {Q : α → Prop} (h : Rd P t k Q) (f : β → α) (g : α → β) (hfg : ∀ a, f (g a) = a) : Rd P t (Kd.iso k f) (fun b => Q (f b)) := by
  intro H enc w base sp held fuel cs x hx
  obtain ⟨a, hk, hq⟩ := h H enc w base sp held fuel cs x hx
  refine ⟨g a, ?_, ?_⟩
  · show k.K w (f (g a)) cs
    rw [hfg]
    exact hk
  · show Q (f (g a))
    rw [hfg]
    exact hq

/-- The fields of a struct from the i-th on, in the cells from off on. -/
def RdFrom {α : Type} (P : Program) (fs : Array Field) (i off : Nat) (k : Kd α) (Q : α → Prop) : Prop :=
  ∀ (H : Type) (enc : TypeId × Value → H) (w : World) (base : Nat) (sp : Nat → Bool) (held : Bool) (n : Nat) (cs : List Value) (xs : List (DataW H × List MemPlace)),
    (∀ (j : Nat) (f : Field), fs[j]? = some f → DataW.trod enc P w base sp held n f.type ((cs.drop f.offset).take (P.cellsOf f.type)) = xs[j]?) → xs.length = fs.size → cs.length = off + k.sz →
    ∃ a, k.K w a (cs.drop off) ∧ Q a

theorem RdFrom.last {α : Type} {P : Program} {fs : Array Field} {i off : Nat} {k : Kd α} {Q : α → Prop} (f : Field) (hf : fs[i]? = some f) (ho : f.offset = off) (hc : P.cellsOf f.type = k.sz) (h : Rd P f.type k Q) : RdFrom P fs i off k Q := by
  intro H enc w base sp held n cs xs hx hl hcs
  have h1 := hx i f hf
  have hi : i < xs.length := by rw [hl]; exact (Array.getElem?_eq_some_iff.1 hf).1
  rw [List.getElem?_eq_getElem hi] at h1
  obtain ⟨a, hk, hq⟩ := h _ _ _ _ _ _ _ _ _ h1
  refine ⟨a, ?_, hq⟩
  rw [ho, hc, List.take_of_length_le (by rw [List.length_drop]; omega)] at hk
  exact hk
theorem RdFrom.cons {α β : Type} {P : Program} {fs : Array Field} {i off : Nat} {k : Kd α} {Q : α → Prop} {k2 : Kd β} {Q2 : β → Prop} (f : Field) (hf : fs[i]? = some f) (ho : f.offset = off) (hc : P.cellsOf f.type = k.sz) (h : Rd P f.type k Q)
    (h2 : RdFrom P fs (i + 1) (off + k.sz) k2 Q2) : RdFrom P fs i off (Kd.pair k k2) (fun x => Q x.1 ∧ Q2 x.2) := by
  intro H enc w base sp held n cs xs hx hl hcs
  have hsz : (Kd.pair k k2).sz = k.sz + k2.sz := rfl
  have h1 := hx i f hf
  have hi : i < xs.length := by rw [hl]; exact (Array.getElem?_eq_some_iff.1 hf).1
  rw [List.getElem?_eq_getElem hi] at h1
  obtain ⟨a, hk, hq⟩ := h _ _ _ _ _ _ _ _ _ h1
  obtain ⟨b, hk2, hq2⟩ := h2 H enc w base sp held n cs xs hx hl (by omega)
  refine ⟨(a, b), ⟨_, _, ?_, hk, hk2⟩, hq, hq2⟩
  rw [ho, hc]
  conv => lhs; rw [← List.take_append_drop k.sz (cs.drop off)]
  rw [List.drop_drop]
theorem Rd.struct {α : Type} {P : Program} {t : TypeId} {fs : Array Field} {k : Kd α} {Q : α → Prop} (ht : P.underlying t = some (.struct fs)) (hc : P.cellsOf t = k.sz) (h : RdFrom P fs 0 0 k Q) : Rd P t k Q := by
  intro H enc w base sp held fuel cs x hx
  obtain ⟨xs, n, _, _, hlen, hl, hf⟩ := DataW.trod_struct ht hx
  obtain ⟨a, hk, hq⟩ := h H enc w base sp held n cs xs hf hl (by rw [hlen, hc]; omega)
  exact ⟨a, by simpa using hk, hq⟩

theorem list_of {α : Type} {P : Nat → α → Prop} : ∀ n : Nat, (∀ i, i < n → ∃ a, P i a) → ∃ l : List α, l.length = n ∧ ∀ (i : Nat) (a : α), l[i]? = some a → P i a
  | 0, _ => ⟨[], rfl, fun i a h => by simp at h⟩
  | n + 1, h => by
    obtain ⟨l, hl, hp⟩ := list_of n (fun i hi => h i (by omega))
    obtain ⟨a, ha⟩ := h n (by omega)
    refine ⟨l ++ [a], by simp [hl], fun i b hb => ?_⟩
    rcases Nat.lt_or_ge i l.length with hi | hi
    · rw [List.getElem?_append_left hi] at hb
      exact hp i b hb
    · rw [List.getElem?_append_right hi] at hb
      have : i - l.length = 0 := by
        have := (List.getElem?_eq_some_iff.1 hb).1
        simp at this
        omega
      rw [this] at hb
      simp at hb
      subst hb
      have : i = n := by omega
      rw [this]
      exact ha

theorem Rd.slice {α : Type} {P : Program} {t e : TypeId} {k : Kd α} {Q : α → Prop} (ht : P.underlying t = some (.slice e)) (hc : P.cellsOf e = k.sz) (h : Rd P e k Q) : Rd P t (Kd.slice e k) (fun l => l.length ≤ maxLen ∧ ∀ x ∈ l, Q x) := by
  intro H enc w base sp held fuel cs x hx
  rcases open_slice ht hx with ⟨rfl, _⟩ | ⟨a, len, cap, m, n, D, Pl, rfl, hb, hl, hm, hmm, _, hi⟩
  · exact ⟨[], ⟨none, 0, rfl, Nat.le_refl _, rfl, by simp, fun h => absurd h (by simp)⟩, by simp [maxLen], fun x hx => by simp at hx⟩
  · have hle : len ≤ m := by rw [hmm]; split <;> omega
    have hel : ∀ i, i < len → ∃ y : α, Q y ∧ ∃ c, c.length = k.sz ∧ k.K w y c ∧ ∀ j u, c[j]? = some u → w.cell? (a.add (i * k.sz + j)) = some u := by
      intro i hil
      obtain ⟨c, hcell, htr⟩ := hi i (by omega)
      rw [hc] at hcell
      obtain ⟨y, hy, hq⟩ := h _ _ _ _ _ _ _ _ _ htr
      obtain ⟨_, hcl, hat⟩ := World.cells?_some hcell
      refine ⟨y, hq, c, hcl, hy, fun j u hj => ?_⟩
      have hjl : j < k.sz := by rw [← hcl]; exact (List.getElem?_eq_some_iff.1 hj).1
      have := hat j hjl
      rw [hj, Go.Deep.add_add] at this
      exact this
    obtain ⟨l, hll, hp⟩ := list_of len hel
    subst hll
    refine ⟨l, ⟨some a, cap, rfl, hl, rfl, ?_, fun _ => ⟨a, rfl, fun j p hj => ?_⟩⟩, by omega, fun x hx => ?_⟩
    · have := hm
      unfold maxLen at this
      omega
    · obtain ⟨_, c, h1, h2, h3⟩ := hp j p hj
      exact ⟨c, h1, h2, h3⟩
    · obtain ⟨i, hi⟩ := List.getElem?_of_mem hx
      exact (hp i x hi).1

/-- An argument of a slice's type. -/
theorem Rd.arg_slice {α : Type} {P : Program} {t e : TypeId} {k : Kd α} {Q : List α → Prop} (h : Rd P t (Kd.slice e k) Q) {H : Type} {enc : TypeId × Value → H} {w : World} {base : Nat} {sp : Nat → Bool} {held : Bool} {v : Value} {d : DataW H} {p : List MemPlace}
    (hv : ∃ a len cap, v = .slice a len cap) (hj : DataW.Trod enc P w base sp held t v d p) : ∃ A c l, v = .slice A l.length c ∧ l.length ≤ c ∧ k.C w A l.length l ∧ Q l := by
  obtain ⟨a, len, cap, rfl⟩ := hv
  obtain ⟨fuel, hf⟩ := hj
  obtain ⟨l, ⟨A, c, hcs, hl, hC⟩, hq⟩ := h _ _ _ _ _ _ _ _ _ hf
  simp only [Value.cells, List.cons.injEq, Value.slice.injEq, and_true] at hcs
  obtain ⟨rfl, rfl, rfl⟩ := hcs
  exact ⟨_, _, l, rfl, hl, hC, hq⟩
/-- An argument of any other type. -/
theorem Rd.arg {α : Type} {P : Program} {t : TypeId} {k : Kd α} {Q : α → Prop} (h : Rd P t k Q) {H : Type} {enc : TypeId × Value → H} {w : World} {base : Nat} {sp : Nat → Bool} {held : Bool} {v : Value} {d : DataW H} {p : List MemPlace}
    (hj : DataW.Trod enc P w base sp held t v d p) : ∃ a, k.K w a v.cells.toList ∧ Q a := by
  obtain ⟨fuel, hf⟩ := hj
  exact h _ _ _ _ _ _ _ _ _ hf
end Go.Proofs.YtbcgcfdpblhddaaDoor.Read
