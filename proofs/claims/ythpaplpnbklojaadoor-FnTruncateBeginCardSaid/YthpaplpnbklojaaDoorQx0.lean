-- printed by this project's own program wip/tools/mkprint.py (the kit's print.py with hand-proved contracts put in)
import Derived.Test.YthpaplpnbklojaaDoorProg
import Derived.Below
import Derived.Deep.Draws
import Derived.Deep.AppendLies
import Derived.Maps.AppendAt
import Derived.OwnWalk
import Derived.Laws.BytesArg
import Derived.Laws.MakeOwn
import Derived.Laws.OwnMore
import Derived.Deep.OwnRows
import Derived.Tactics
import Derived.Lib.ConvBytes
import Derived.Laws.Slices
import Derived.WalkKit
import Derived.KernelRfl
import Derived.RowKit3
import Derived.Deep.LoopGhost
import Derived.Deep.QuietTactic
import Derived.BigQuiet
import Derived.WideLaws
import Derived.Deep.DeepCutAuto
import Derived.Deep.CutBlock
import Derived.Deep.RegionHeld3
import Derived.Laws.Rows
import Derived.Lib.AppendStr
import Derived.ArgAppend
import Derived.Laws.IdiomCopy
import Derived.OrdersHeld
import Derived.Laws.BitsLemmas
import Derived.RowKit
import Derived.Test.YthpaplpnbklojaaDoorWWords
import Derived.Test.YthpaplpnbklojaaDoorWLast
import Derived.Test.YthpaplpnbklojaaDoorWTab
import Derived.Test.YthpaplpnbklojaaDoorWFour
import Derived.Test.YthpaplpnbklojaaDoorWQPut
import Derived.Test.YthpaplpnbklojaaDoorWApart
import Derived.Test.YthpaplpnbklojaaDoorWArr
import Derived.Test.YthpaplpnbklojaaDoorWZeros
import Derived.Test.YthpaplpnbklojaaDoorWFoot
import Derived.Test.YthpaplpnbklojaaDoorWKept
import Derived.Test.YthpaplpnbklojaaDoorWShare
import Derived.Test.YthpaplpnbklojaaDoorWN
import Derived.Test.YthpaplpnbklojaaDoorWFootNe
import Derived.Test.YthpaplpnbklojaaDoorWAt
import Derived.Test.YthpaplpnbklojaaDoorWEqStruct
import Derived.Test.YthpaplpnbklojaaDoorWRepsOne
import Derived.Test.YthpaplpnbklojaaDoorWInv
import Derived.Test.YthpaplpnbklojaaDoorWInvWords
import Derived.Test.YthpaplpnbklojaaDoorWGuard
import Derived.Test.YthpaplpnbklojaaDoorWNEv
import Derived.Test.YthpaplpnbklojaaDoorWMore
namespace Go.Proofs.YthpaplpnbklojaaDoor.Q
open Go.RowKit Go.Proofs.YthpaplpnbklojaaDoorW.PrintWords Go.Proofs.YthpaplpnbklojaaDoorW.PrintLast Go.Proofs.YthpaplpnbklojaaDoorW.PrintMore
attribute [local go_sem] max2_int min2_int max_two min_two max_three min_three max_four min_four   -- for this text's walks alone
set_option linter.unusedVariables false
set_option linter.unusedSimpArgs false



def errW : Option Int → Value
  | none => .nilIface
  | some c => .iface 0 (.int .i64 c)
theorem errW_none : errW none = .nilIface := rfl
theorem errW_some (c : Int) : errW (some c) = .iface 0 (.int .i64 c) := rfl

-- the values' own types


end Go.Proofs.YthpaplpnbklojaaDoor.Q
