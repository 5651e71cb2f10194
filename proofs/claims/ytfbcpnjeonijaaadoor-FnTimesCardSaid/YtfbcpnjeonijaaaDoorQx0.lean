-- printed by this project's own program wip/tools/mkprint.py (the kit's print.py with hand-proved contracts put in)
import Derived.Test.YtfbcpnjeonijaaaDoorProg
import Derived.Below
import Derived.Deep.Draws
import Derived.Deep.AppendLies
import Derived.Maps.AppendAt
import Derived.OwnWalk
import Derived.Laws.BytesArg
import Derived.Laws.MakeOwn
import Derived.Laws.OwnMore
import Derived.Deep.OwnRows
import Derived.Tactics
import Derived.Lib.ConvBytes
import Derived.Laws.Slices
import Derived.WalkKit
import Derived.KernelRfl
import Derived.RowKit3
import Derived.Deep.LoopGhost
import Derived.Deep.QuietTactic
import Derived.BigQuiet
import Derived.WideLaws
import Derived.Deep.DeepCutAuto
import Derived.Deep.CutBlock
import Derived.Deep.RegionHeld3
import Derived.Laws.Rows
import Derived.Lib.AppendStr
import Derived.ArgAppend
import Derived.Laws.IdiomCopy
import Derived.OrdersHeld
import Derived.Laws.BitsLemmas
import Derived.RowKit
import Derived.BigQuiet
import Derived.BigRegion
import Derived.Deep.QuietTactic
import Derived.Laws.Rows
import Derived.Test.YtfbcpnjeonijaaaDoorShelf
import Derived.WalkSmall
import Derived.Test.YtfbcpnjeonijaaaDoorWWords
import Derived.Test.YtfbcpnjeonijaaaDoorWLast
import Derived.Test.YtfbcpnjeonijaaaDoorWTab
import Derived.Test.YtfbcpnjeonijaaaDoorWFour
import Derived.Test.YtfbcpnjeonijaaaDoorWQPut
import Derived.Test.YtfbcpnjeonijaaaDoorWApart
import Derived.Test.YtfbcpnjeonijaaaDoorWArr
import Derived.Test.YtfbcpnjeonijaaaDoorWZeros
import Derived.Test.YtfbcpnjeonijaaaDoorWFoot
import Derived.Test.YtfbcpnjeonijaaaDoorWKept
import Derived.Test.YtfbcpnjeonijaaaDoorWShare
import Derived.Test.YtfbcpnjeonijaaaDoorWN
import Derived.Test.YtfbcpnjeonijaaaDoorWFootNe
import Derived.Test.YtfbcpnjeonijaaaDoorWAt
import Derived.Test.YtfbcpnjeonijaaaDoorWEqStruct
import Derived.Test.YtfbcpnjeonijaaaDoorWRepsOne
import Derived.Test.YtfbcpnjeonijaaaDoorWInv
import Derived.Test.YtfbcpnjeonijaaaDoorWInvWords
import Derived.Test.YtfbcpnjeonijaaaDoorWGuard
import Derived.Test.YtfbcpnjeonijaaaDoorWNEv
import Derived.Test.YtfbcpnjeonijaaaDoorWMore
namespace Go.Proofs.YtfbcpnjeonijaaaDoor.Q
open Go.RowKit Go.Proofs.YtfbcpnjeonijaaaDoorW.PrintWords Go.Proofs.YtfbcpnjeonijaaaDoorW.PrintLast Go.Proofs.YtfbcpnjeonijaaaDoorW.PrintMore
attribute [local go_sem] max2_int min2_int max_two min_two max_three min_three max_four min_four   -- for this text's walks alone
set_option linter.unusedVariables false
set_option linter.unusedSimpArgs false



def errW : Option Int → Value
  | none => .nilIface
  | some c => .iface 55 (.int .i64 c)
theorem errW_none : errW none = .nilIface := rfl
theorem errW_some (c : Int) : errW (some c) = .iface 55 (.int .i64 c) := rfl

theorem info9 : (Tryd.prog.info? 9).map (fun i => (i.zero, i.size, i.bytes)) = some (some (.string ⟨#[]⟩), 1, 16) := by kernel_rfl
-- the values' own types


end Go.Proofs.YtfbcpnjeonijaaaDoor.Q
