/- From what a row lists of strconv's two errors to what the walks ask. -/
import Derived.Lib.LaidU8
import Derived.LaidLaws
import Derived.Test.YtdookfmcphmlgaaDoorDur
namespace Go.Proofs.YtdookfmcphmlgaaDoor.Door
open Go.RowKit Go.Shelf Go.Lib
set_option linter.unusedVariables false
theorem err_of_reads {w : World} {n : String} {g : Nat} {name : String} {d : DataW Unit} (hg0 : Tryd.prog.globalNamed n = some g) (hty0 : (Tryd.prog.globals[g]?).map (·.type) = some 29)
    (h : VarReads Tryd.prog w n (.iface name d)) : ∃ ev, w.cell? ⟨g, 0, none⟩ = some ev ∧ (ev = .nilIface ∨ ∃ te pe, ev = .iface te pe) := by
  obtain ⟨g', t, cs, fuel, p, hg, hty, hvar, hd⟩ := h
  have eg := Option.some.inj (hg0.symm.trans hg)
  subst eg
  have et := Option.some.inj (hty0.symm.trans hty)
  subst et
  obtain ⟨f', u, v, hcs, _, _⟩ := iface_of_trod Tryd.underlying29 hd
  refine ⟨.iface u v, ?_, Or.inr ⟨u, v, rfl⟩⟩
  rw [World.var?_cell hg hvar 0, ← Array.getElem?_toList, hcs]
  rfl
theorem errs_of_reads {w : World} {n1 n2 : String} {d1 d2 : DataW Unit} (h1 : VarReads Tryd.prog w "strconv.ErrSyntax" (.iface n1 d1)) (h2 : VarReads Tryd.prog w "strconv.ErrRange" (.iface n2 d2)) : Errs w :=
  ⟨err_of_reads (by kernel_rfl) (by kernel_rfl) h1, err_of_reads (by kernel_rfl) (by kernel_rfl) h2⟩
end Go.Proofs.YtdookfmcphmlgaaDoor.Door
