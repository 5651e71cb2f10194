-- printed by this project's own program wip/tools/mkprint.py (the kit's print.py with hand-proved contracts put in)
import Derived.Test.YtbffhefeepmpcaaQx0
import Derived.Test.YtbffhefeepmpcaaQx14
import Derived.Test.YtbffhefeepmpcaaQx15
import Derived.Test.YtbffhefeepmpcaaQx16
namespace Go.Proofs.Ytbffhefeepmpcaa.Q
open Go.RowKit Go.Proofs.YtbffhefeepmpcaaW.PrintWords Go.Proofs.YtbffhefeepmpcaaW.PrintLast Go.Proofs.YtbffhefeepmpcaaW.PrintMore
attribute [local go_sem] max2_int min2_int max_two min_two max_three min_three max_four min_four   -- for this text's walks alone
set_option linter.unusedVariables false
set_option linter.unusedSimpArgs false

/-! ### impl_Before: function 22 -/
-- a contract that was proved by hand
def impl_Before.f (l0 : List S37) (a1 a2 : Int) : Option Bool :=
  if l0.length ≤ 17592186044416 then (if 0 ≤ a1 ∧ a1 < l0.length ∧ 0 ≤ a2 ∧ a2 < l0.length then some (lessM (toMat (rd_T37 l0 a1)) (toMat (rd_T37 l0 a2))) else none) else none
theorem mapMat_getD (l0 : List S37) (i : Int) (h0 : 0 ≤ i) (h1 : i < l0.length) : (l0.map toMat).getD i.toNat zMat = toMat (rd_T37 l0 i) := by
  have h : i.toNat < l0.length := by omega
  simp [rd_T37, List.getD_eq_getElem?_getD, h]
set_option maxHeartbeats 1600000 in
set_option maxRecDepth 100000 in
theorem impl_Before.calls (A0 : Option Addr) (c0 : Nat) (l0 : List S37) (a1 a2 : Int) (r : Bool) (w : World) (hr0 : Kd.C k37 w A0 l0.length l0) (hc0 : l0.length ≤ c0) (h : impl_Before.f l0 a1 a2 = some r) :
    Calls Try.prog 22 #[.slice A0 l0.length c0, .int .i64 a1, .int .i64 a2] w fun e w' => e = .returned (.bool r) ∧ Below w.heap.size w w' := by
  unfold impl_Before.f at h
  split at h
  · rename_i hl
    split at h
    · rename_i hh
      obtain ⟨h1, h2, h3, h4⟩ := hh
      obtain rfl := Option.some.inj h
      clear h
      have e1 := mapMat_getD l0 a1 h1 h2
      have e2 := mapMat_getD l0 a2 h3 h4
      have e3 : (l0.map toMat).length = l0.length := List.length_map ..
      have HI := impl_inners.calls A0 c0 l0 w hr0 hc0 hl
      generalize l0.map toMat = l at *
      rw [← e1, ← e2]
      rw [← e3] at h2 h4
      clear e1 e2 e3
      obtain ⟨q, hq⟩ : ∃ q, lessM (l.getD a1.toNat zMat) (l.getD a2.toNat zMat) = q := ⟨_, rfl⟩
      rw [hq]
      have HQ := Aside0.mk hq
      clear hq
      have HI' := Aside0.mk HI
      clear HI
      go_enter Try.func22, Try.ntmps22
      go_wp2_with fail
      refine HI'.out.mono ?_
      rintro e w1 ⟨v, rfl, hO, hB⟩
      obtain ⟨A, c, rfl, hlc, hC⟩ := Kd.R_reads hO
      go_wp2_with fail
      have HL := labels_Matchers_Less.calls A c l a1 a2 w1 hC h1 h2 h3 h4 hlc
      rw [HQ.out] at HL
      refine HL.mono ?_
      clear HL
      rintro e w2 ⟨rfl, hD⟩
      go_wp2
      go_ret
      exact ⟨rfl, below_step hB hD.below⟩
    · cases h
  · cases h


end Go.Proofs.Ytbffhefeepmpcaa.Q
