-- printed by this project's own program wip/tools/mkprint.py (the kit's print.py with hand-proved contracts put in)
import Derived.Test.YtejlamkknoicgaaDoorProg
import Derived.Below
import Derived.Deep.Draws
import Derived.Deep.AppendLies
import Derived.Maps.AppendAt
import Derived.OwnWalk
import Derived.Laws.BytesArg
import Derived.Laws.MakeOwn
import Derived.Laws.OwnMore
import Derived.Deep.OwnRows
import Derived.Tactics
import Derived.Lib.ConvBytes
import Derived.Laws.Slices
import Derived.WalkKit
import Derived.KernelRfl
import Derived.RowKit3
import Derived.Deep.LoopGhost
import Derived.Deep.QuietTactic
import Derived.BigQuiet
import Derived.WideLaws
import Derived.Deep.DeepCutAuto
import Derived.Deep.CutBlock
import Derived.Deep.RegionHeld3
import Derived.Laws.Rows
import Derived.Lib.AppendStr
import Derived.ArgAppend
import Derived.Laws.IdiomCopy
import Derived.OrdersHeld
import Derived.Laws.BitsLemmas
import Derived.RowKit
import Derived.Test.YtejlamkknoicgaaDoorWWords
import Derived.Test.YtejlamkknoicgaaDoorWLast
import Derived.Test.YtejlamkknoicgaaDoorWTab
import Derived.Test.YtejlamkknoicgaaDoorWFour
import Derived.Test.YtejlamkknoicgaaDoorWQPut
import Derived.Test.YtejlamkknoicgaaDoorWApart
import Derived.Test.YtejlamkknoicgaaDoorWArr
import Derived.Test.YtejlamkknoicgaaDoorWZeros
import Derived.Test.YtejlamkknoicgaaDoorWFoot
import Derived.Test.YtejlamkknoicgaaDoorWKept
import Derived.Test.YtejlamkknoicgaaDoorWShare
import Derived.Test.YtejlamkknoicgaaDoorWN
import Derived.Test.YtejlamkknoicgaaDoorWFootNe
import Derived.Test.YtejlamkknoicgaaDoorWAt
import Derived.Test.YtejlamkknoicgaaDoorWEqStruct
import Derived.Test.YtejlamkknoicgaaDoorWRepsOne
import Derived.Test.YtejlamkknoicgaaDoorWInv
import Derived.Test.YtejlamkknoicgaaDoorWInvWords
import Derived.Test.YtejlamkknoicgaaDoorWGuard
import Derived.Test.YtejlamkknoicgaaDoorWNEv
import Derived.Test.YtejlamkknoicgaaDoorWMore
namespace Go.Proofs.YtejlamkknoicgaaDoor.Q
open Go.RowKit Go.Proofs.YtejlamkknoicgaaDoorW.PrintWords Go.Proofs.YtejlamkknoicgaaDoorW.PrintLast Go.Proofs.YtejlamkknoicgaaDoorW.PrintMore
attribute [local go_sem] max2_int min2_int max_two min_two max_three min_three max_four min_four   -- for this text's walks alone
set_option linter.unusedVariables false
set_option linter.unusedSimpArgs false



def errW : Option Int → Value
  | none => .nilIface
  | some c => .iface 0 (.int .i64 c)
theorem errW_none : errW none = .nilIface := rfl
theorem errW_some (c : Int) : errW (some c) = .iface 0 (.int .i64 c) := rfl

-- the values' own types


end Go.Proofs.YtejlamkknoicgaaDoor.Q
