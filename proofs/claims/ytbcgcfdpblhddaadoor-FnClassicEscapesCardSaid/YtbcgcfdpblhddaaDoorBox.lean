/- A kind of values: a pointer to a block that holds one value; used for lists of pointers. -/
import Derived.Test.YtbcgcfdpblhddaaDoorWWords
import Derived.Test.YtbcgcfdpblhddaaDoorWLast
import Derived.Test.YtbcgcfdpblhddaaDoorWMore
import Derived.Test.YtbcgcfdpblhddaaDoorWFour
import Derived.Test.YtbcgcfdpblhddaaDoorWShare
set_option linter.unusedVariables false
set_option linter.unusedSimpArgs false
namespace Go.Proofs.YtbcgcfdpblhddaaDoor.Box
open Go.RowKit Go.Proofs.YtbcgcfdpblhddaaDoorW.PrintWords Go.Proofs.YtbcgcfdpblhddaaDoorW.PrintLast

/-- What a pointer leads to, the pointer in one cell: a block of type T that holds just the value. -/
def box {α : Type} (T : Nat) (d : Kd α) : Kd α where
  sz := 1
  E := T :: d.E
  K := fun w x cs => ∃ g cs', cs = [.pointer (some ⟨g, 0, none⟩)] ∧ w.heap[g]? = some (.cells cs' T (0, 0)) ∧ d.K w x cs'.toList
  M := fun w base ok x cs => ∃ g cs', cs = [.pointer (some ⟨g, 0, none⟩)] ∧ ok g ∧ base ≤ g ∧ w.heap[g]? = some (.cells cs' T (0, 0)) ∧ d.M w base ok x cs'.toList
  K_len := fun ⟨_, _, e, _⟩ => by rw [e]; rfl
  K_one := fun ⟨_, _, e, _⟩ u hu => by
    rw [e] at hu
    obtain rfl := List.mem_singleton.1 hu
    rfl
  K_below := fun {w w1 x cs} hb ⟨g, cs', e, hg, hk⟩ => ⟨g, cs', e, (hb.block g (Array.getElem?_eq_some_iff.1 hg).1).trans hg, d.K_below hb hk⟩
  K_of_M := fun ⟨g, cs', e, _, _, hg, hk⟩ => ⟨g, cs', e, hg, d.K_of_M hk⟩
  M_mono := fun h ⟨g, cs', e, ho, hb, hg, hk⟩ => ⟨g, cs', e, h g ho, hb, hg, d.M_mono h hk⟩
  M_bound := fun {w base ok x cs} ⟨g, cs', e, ho, hb, hg, hk⟩ => ⟨g, cs', e, ⟨ho, hb, (Array.getElem?_eq_some_iff.1 hg).1, T, List.mem_cons_self, cs', hg⟩, hb, hg,
    d.M_mono (fun k hk' => ⟨hk'.1, hk'.2.1, hk'.2.2.1, by obtain ⟨q, hq, hc⟩ := hk'.2.2.2; exact ⟨q, List.mem_cons_of_mem _ hq, hc⟩⟩) (d.M_bound hk)⟩
  M_move := fun h ⟨g, cs', e, ho, hb, hg, hk⟩ => ⟨g, cs', e, ho, hb, (h g ho).trans hg, d.M_move h hk⟩
  M_lower := fun h ⟨g, cs', e, ho, hb, hg, hk⟩ => ⟨g, cs', e, ho, Nat.le_trans h hb, hg, d.M_lower h hk⟩
theorem new_at {W : World} {n : Nat} (h : W.heap.size = n) (o : Obj) : (W.alloc o).heap[n]? = some o := by
  subst h
  exact blk_new W o
theorem take_more {α : Type} (l : List α) (z : α) (j : Nat) (h : j < l.length) : l.take (j + 1) = l.take j ++ [l.getD j z] := by
  rw [List.take_succ_eq_append_getElem h, List.getD_eq_getElem?_getD, List.getElem?_eq_getElem h]
  rfl
end Go.Proofs.YtbcgcfdpblhddaaDoor.Box
