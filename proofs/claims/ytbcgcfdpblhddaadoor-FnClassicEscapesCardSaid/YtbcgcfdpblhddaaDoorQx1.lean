-- printed by this project's own program wip/tools/mkprint.py (the kit's print.py with hand-proved contracts put in)
import Derived.Test.YtbcgcfdpblhddaaDoorQx0
namespace Go.Proofs.YtbcgcfdpblhddaaDoor.Q
open Go.RowKit Go.Proofs.YtbcgcfdpblhddaaDoorW.PrintWords Go.Proofs.YtbcgcfdpblhddaaDoorW.PrintLast Go.Proofs.YtbcgcfdpblhddaaDoorW.PrintMore
attribute [local go_sem] max2_int min2_int max_two min_two max_three min_three max_four min_four   -- for this text's walks alone
set_option linter.unusedVariables false
set_option linter.unusedSimpArgs false

theorem eqA24 (d : Nat) (w : World) (x0 y0 : Int) (x1 y1 : ByteArray) (x2 y2 : ByteArray) :
    (Op.equalIn (d + 2) 24 (.agg #[.int .i64 x0, .string x1, .string x2]) (.agg #[.int .i64 y0, .string y1, .string y2])).run Tryd.prog w = .ok (x0 == y0 && (x1.toList == y1.toList && (x2.toList == y2.toList))) w := by
  refine eqA_of Tryd.underlying24 (by kernel_rfl) ?_
  refine eqf_cons (by rfl) (by go_simp; rfl) (by go_simp; rfl) (by go_simp) ?_
  refine eqf_cons (by rfl) (by go_simp; rfl) (by go_simp; rfl) (by go_simp) ?_
  exact eqf_last (by rfl) (by go_simp; rfl) (by go_simp; rfl) (by go_simp)
end Go.Proofs.YtbcgcfdpblhddaaDoor.Q
