/- The walk of FnRangeBack at a world whose listed variable reads as Go lays it. -/
import Derived.Test.YtfkapmbjnfnmmaaDoorRbL
set_option linter.unusedVariables false
set_option linter.unusedSimpArgs false
namespace Go.Proofs.YtfkapmbjnfnmmaaDoor.Door
open Go.RowKit Go.Lib Go.Proofs.YtfkapmbjnfnmmaaDoor.Q Go.Proofs.YtfkapmbjnfnmmaaDoor.Pure
theorem law_FnRangeBack (a : Int) (ha0 : 0 ≤ a) (ha1 : a ≤ 65535) (b : Int) (hb0 : 0 ≤ b) (hb1 : b ≤ 65535) (c : Int) (hc0 : 0 ≤ c) (hc1 : c ≤ 255) (w : World) (hP : Pow w) :
    Calls Tryd.prog 6 #[.int .u16 a, .int .u16 b, .int .u8 c] w fun x w' => x = .returned (.bool true) ∧ Below w.heap.size w w' :=
  law_core a b c ha0 ha1 hb0 hb1 hc0 hc1 w hP
end Go.Proofs.YtfkapmbjnfnmmaaDoor.Door
