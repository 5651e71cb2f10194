-- printed by this project's own program wip/tools/mkprint.py (the kit's print.py with hand-proved contracts put in)
import Derived.Test.YtbffhefeepmpcaaQx0
namespace Go.Proofs.Ytbffhefeepmpcaa.Q
open Go.RowKit Go.Proofs.YtbffhefeepmpcaaW.PrintWords Go.Proofs.YtbffhefeepmpcaaW.PrintLast Go.Proofs.YtbffhefeepmpcaaW.PrintMore
attribute [local go_sem] max2_int min2_int max_two min_two max_three min_three max_four min_four   -- for this text's walks alone
set_option linter.unusedVariables false
set_option linter.unusedSimpArgs false

/-! ### impl_inner: function 69 -/
-- contracts that were proved by hand
def kMat : Kd S114 := Box.box 114 k114
def toMat (x : S37) : S114 := ⟨x.f0, x.f1, x.f2⟩
theorem kMat_new {w : World} {base g : Nat} {x : S114} (hb : base ≤ g) (h : w.heap[g]? = some (.cells #[.int .i64 x.f0, .string x.f1, .string x.f2] 114 (0, 0))) (ok : Nat → Prop) (ho : ok g) :
    kMat.M w base ok x [.pointer (some ⟨g, 0, none⟩)] :=
  ⟨g, _, rfl, ho, hb, h, k114_mkM w base ok x⟩
theorem kMat_open {w : World} {x : S114} {cs : List Value} (h : kMat.K w x cs) : ∃ g, cs = [.pointer (some ⟨g, 0, none⟩)] ∧ w.heap[g]? = some (.cells #[.int .i64 x.f0, .string x.f1, .string x.f2] 114 (0, 0)) := by
  obtain ⟨g, cs', e, hg, hk⟩ := h
  have e' := k114_open hk
  refine ⟨g, e, ?_⟩
  rw [hg]
  congr 2
  exact Array.toList_inj.1 e'
set_option maxHeartbeats 800000 in
theorem impl_inner.calls (a0 : Int) (a1 a2 : ByteArray) (w : World) :
    Calls Try.prog 69 #[.agg #[.int .i64 a0, .string a1, .string a2]] w fun e w' => ∃ g, e = .returned (.pointer (some ⟨g, 0, none⟩)) ∧ w.heap.size ≤ g ∧ w'.heap[g]? = some (.cells #[.int .i64 a0, .string a1, .string a2] 114 (0, 0)) ∧ Below w.heap.size w w' := by
  go_enter Try.func69, Try.ntmps69
  go_wp2
  go_ret
  exact ⟨_, rfl, by omega, Box.new_at (by simp) _, below_alloc (below_alloc (Below.refl _ _) _) _⟩


end Go.Proofs.Ytbffhefeepmpcaa.Q
