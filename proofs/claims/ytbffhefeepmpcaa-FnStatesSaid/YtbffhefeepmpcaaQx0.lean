-- printed by this project's own program wip/tools/mkprint.py (the kit's print.py with hand-proved contracts put in)
import Derived.Test.YtbffhefeepmpcaaProg
import Derived.Below
import Derived.Deep.Draws
import Derived.Deep.AppendLies
import Derived.Maps.AppendAt
import Derived.OwnWalk
import Derived.Laws.BytesArg
import Derived.Laws.MakeOwn
import Derived.Laws.OwnMore
import Derived.Deep.OwnRows
import Derived.Tactics
import Derived.Lib.ConvBytes
import Derived.Laws.Slices
import Derived.WalkKit
import Derived.KernelRfl
import Derived.RowKit3
import Derived.Deep.LoopGhost
import Derived.Deep.QuietTactic
import Derived.BigQuiet
import Derived.WideLaws
import Derived.Deep.DeepCutAuto
import Derived.Deep.CutBlock
import Derived.Deep.RegionHeld3
import Derived.Laws.Rows
import Derived.Lib.AppendStr
import Derived.ArgAppend
import Derived.Laws.IdiomCopy
import Derived.OrdersHeld
import Derived.Laws.BitsLemmas
import Derived.RowKit
import Derived.Test.YtbffhefeepmpcaaWWords
import Derived.Test.YtbffhefeepmpcaaWLast
import Derived.Test.YtbffhefeepmpcaaWTab
import Derived.Test.YtbffhefeepmpcaaWFour
import Derived.Test.YtbffhefeepmpcaaWQPut
import Derived.Test.YtbffhefeepmpcaaWApart
import Derived.Test.YtbffhefeepmpcaaWArr
import Derived.Test.YtbffhefeepmpcaaWZeros
import Derived.Test.YtbffhefeepmpcaaWFoot
import Derived.Test.YtbffhefeepmpcaaWKept
import Derived.Test.YtbffhefeepmpcaaWShare
import Derived.Test.YtbffhefeepmpcaaWN
import Derived.Test.YtbffhefeepmpcaaWFootNe
import Derived.Test.YtbffhefeepmpcaaWAt
import Derived.Test.YtbffhefeepmpcaaWEqStruct
import Derived.Test.YtbffhefeepmpcaaWRepsOne
import Derived.Test.YtbffhefeepmpcaaWInv
import Derived.Test.YtbffhefeepmpcaaWInvWords
import Derived.Test.YtbffhefeepmpcaaWGuard
import Derived.Test.YtbffhefeepmpcaaWNEv
import Derived.Test.YtbffhefeepmpcaaWMore
namespace Go.Proofs.Ytbffhefeepmpcaa.Q
open Go.RowKit Go.Proofs.YtbffhefeepmpcaaW.PrintWords Go.Proofs.YtbffhefeepmpcaaW.PrintLast Go.Proofs.YtbffhefeepmpcaaW.PrintMore
attribute [local go_sem] max2_int min2_int max_two min_two max_three min_three max_four min_four   -- for this text's walks alone
set_option linter.unusedVariables false
set_option linter.unusedSimpArgs false



def errW : Option Int → Value
  | none => .nilIface
  | some c => .iface 0 (.int .i64 c)
theorem errW_none : errW none = .nilIface := rfl
theorem errW_some (c : Int) : errW (some c) = .iface 0 (.int .i64 c) := rfl

theorem info9 : (Try.prog.info? 9).map (fun i => (i.zero, i.size, i.bytes)) = some (some (.string ⟨#[]⟩), 1, 16) := by kernel_rfl
-- the values' own types

end Go.Proofs.Ytbffhefeepmpcaa.Q
