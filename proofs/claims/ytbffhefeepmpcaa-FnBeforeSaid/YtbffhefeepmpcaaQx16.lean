-- printed by this project's own program wip/tools/mkprint.py (the kit's print.py with hand-proved contracts put in)
import Derived.Test.YtbffhefeepmpcaaQx0
import Derived.Test.YtbffhefeepmpcaaQx14
namespace Go.Proofs.Ytbffhefeepmpcaa.Q
open Go.RowKit Go.Proofs.YtbffhefeepmpcaaW.PrintWords Go.Proofs.YtbffhefeepmpcaaW.PrintLast Go.Proofs.YtbffhefeepmpcaaW.PrintMore
attribute [local go_sem] max2_int min2_int max_two min_two max_three min_three max_four min_four   -- for this text's walks alone
set_option linter.unusedVariables false
set_option linter.unusedSimpArgs false

/-! ### labels_Matchers_Less: function 53 -/
-- contracts that were proved by hand
def zMat : S114 := z114
theorem kMat_at {w : World} {A : Option Addr} {n : Nat} {l : List S114} (h : Kd.C kMat w A n l) (i : Int) (h0 : 0 ≤ i) (h1 : i < n) :
    ∃ ad g, A = some ad ∧ w.cell? (ad.add i.toNat) = some (.pointer (some ⟨g, 0, none⟩)) ∧ w.cell? ⟨g, 0, none⟩ = some (.int .i64 (l.getD i.toNat zMat).f0) ∧ w.cell? ⟨g, 1, none⟩ = some (.string (l.getD i.toNat zMat).f1) ∧ w.cell? ⟨g, 2, none⟩ = some (.string (l.getD i.toNat zMat).f2) := by
  obtain ⟨ad, c, e, _, hK, hc0⟩ := Kd.C_get h zMat i h0 h1
  obtain ⟨g, rfl, hb⟩ := kMat_open hK
  refine ⟨ad, g, e, ?_, (blk_cell hb 0).trans rfl, (blk_cell hb 1).trans rfl, (blk_cell hb 2).trans rfl⟩
  have := hc0 0 _ rfl
  simpa [kMat, Box.box] using this
def lessM (a b : S114) : Bool :=
  if Op.bytesLess a.f1.toList b.f1.toList = true then true else if (a.f1.toList == b.f1.toList) = true then
  (if Op.bytesLess a.f2.toList b.f2.toList = true then true else if (a.f2.toList == b.f2.toList) = true then decide (a.f0 < b.f0) else false) else false
set_option maxHeartbeats 1600000 in
set_option maxRecDepth 100000 in
theorem labels_Matchers_Less.calls (A0 : Option Addr) (c0 : Nat) (l : List S114) (i j : Int) (w : World) (hr : Kd.C kMat w A0 l.length l) (hi0 : 0 ≤ i) (hi1 : i < l.length) (hj0 : 0 ≤ j) (hj1 : j < l.length) (hc : l.length ≤ c0) :
    Calls Try.prog 53 #[.slice A0 l.length c0, .int .i64 i, .int .i64 j] w fun e w' => e = .returned (.bool (lessM (l.getD i.toNat zMat) (l.getD j.toNat zMat))) ∧ Drawn0 w w' := by
  obtain ⟨ad, g, rfl, ha, ha0, ha1, ha2⟩ := kMat_at hr i hi0 hi1
  obtain ⟨ad', g', e, hb, hb0, hb1, hb2⟩ := kMat_at hr j hj0 hj1
  obtain rfl := Option.some.inj e
  clear e hr
  generalize l.getD i.toNat zMat = x at *
  generalize l.getD j.toNat zMat = y at *
  obtain ⟨x0, x1, x2⟩ := x
  obtain ⟨y0, y1, y2⟩ := y
  simp only at ha0 ha1 ha2 hb0 hb1 hb2
  have hi1' : (i : Int) < (l.length : Int) := hi1
  cases L1 : Op.bytesLess x1.toList y1.toList with
  | true =>
    have hf : lessM ⟨x0, x1, x2⟩ ⟨y0, y1, y2⟩ = true := by simp [lessM, L1]
    rw [hf]
    clear hf
    go_enter Try.func53, Try.ntmps53
    go_wp2
    go_quiet (fail)
    go_wp2
    go_quiet (fail)
    go_wp2
    go_ret
    exact ⟨rfl, by repeat (first | exact Drawn0.refl _ | apply Drawn0.step)⟩
  | false =>
  cases E1 : (x1.toList == y1.toList) with
  | false =>
    have hf : lessM ⟨x0, x1, x2⟩ ⟨y0, y1, y2⟩ = false := by simp [lessM, L1, E1]
    rw [hf]
    clear hf
    go_enter Try.func53, Try.ntmps53
    go_wp2
    go_quiet (fail)
    go_wp2
    go_ret
    exact ⟨rfl, by repeat (first | exact Drawn0.refl _ | apply Drawn0.step)⟩
  | true =>
  cases L2 : Op.bytesLess x2.toList y2.toList with
  | true =>
    have hf : lessM ⟨x0, x1, x2⟩ ⟨y0, y1, y2⟩ = true := by simp [lessM, L1, E1, L2]
    rw [hf]
    clear hf
    go_enter Try.func53, Try.ntmps53
    go_wp2
    go_quiet (fail)
    go_wp2
    go_quiet (fail)
    go_wp2
    go_quiet (fail)
    go_wp2
    go_quiet (fail)
    go_wp2
    go_ret
    exact ⟨rfl, by repeat (first | exact Drawn0.refl _ | apply Drawn0.step)⟩
  | false =>
  cases E2 : (x2.toList == y2.toList) with
  | false =>
    have hf : lessM ⟨x0, x1, x2⟩ ⟨y0, y1, y2⟩ = false := by simp [lessM, L1, E1, L2, E2]
    rw [hf]
    clear hf
    go_enter Try.func53, Try.ntmps53
    go_wp2
    go_quiet (fail)
    go_wp2
    go_quiet (fail)
    go_wp2
    go_quiet (fail)
    go_wp2
    go_ret
    exact ⟨rfl, by repeat (first | exact Drawn0.refl _ | apply Drawn0.step)⟩
  | true =>
    have hf : lessM ⟨x0, x1, x2⟩ ⟨y0, y1, y2⟩ = decide (x0 < y0) := by simp [lessM, L1, E1, L2, E2]
    rw [hf]
    clear hf
    go_enter Try.func53, Try.ntmps53
    go_wp2
    go_quiet (fail)
    go_wp2
    go_quiet (fail)
    go_wp2
    go_quiet (fail)
    go_wp2
    go_quiet (fail)
    go_wp2
    go_quiet (fail)
    go_wp2
    go_ret
    exact ⟨rfl, by repeat (first | exact Drawn0.refl _ | apply Drawn0.step)⟩


end Go.Proofs.Ytbffhefeepmpcaa.Q
