-- printed by this project's own program wip/tools/mkprint.py (the kit's print.py with hand-proved contracts put in)
import Derived.Test.YtdookfmcphmlgaaDoorProg
import Derived.Below
import Derived.Deep.Draws
import Derived.Deep.AppendLies
import Derived.Maps.AppendAt
import Derived.OwnWalk
import Derived.Laws.BytesArg
import Derived.Laws.MakeOwn
import Derived.Laws.OwnMore
import Derived.Deep.OwnRows
import Derived.Tactics
import Derived.Lib.ConvBytes
import Derived.Laws.Slices
import Derived.WalkKit
import Derived.KernelRfl
import Derived.RowKit3
import Derived.Deep.LoopGhost
import Derived.Deep.QuietTactic
import Derived.BigQuiet
import Derived.WideLaws
import Derived.Deep.DeepCutAuto
import Derived.Deep.CutBlock
import Derived.Deep.RegionHeld3
import Derived.Laws.Rows
import Derived.Lib.AppendStr
import Derived.ArgAppend
import Derived.Laws.IdiomCopy
import Derived.OrdersHeld
import Derived.Laws.BitsLemmas
import Derived.RowKit
import Derived.Test.YtdookfmcphmlgaaDoorWWords
import Derived.Test.YtdookfmcphmlgaaDoorWLast
import Derived.Test.YtdookfmcphmlgaaDoorWTab
import Derived.Test.YtdookfmcphmlgaaDoorWFour
import Derived.Test.YtdookfmcphmlgaaDoorWQPut
import Derived.Test.YtdookfmcphmlgaaDoorWApart
import Derived.Test.YtdookfmcphmlgaaDoorWArr
import Derived.Test.YtdookfmcphmlgaaDoorWZeros
import Derived.Test.YtdookfmcphmlgaaDoorWFoot
import Derived.Test.YtdookfmcphmlgaaDoorWKept
import Derived.Test.YtdookfmcphmlgaaDoorWShare
import Derived.Test.YtdookfmcphmlgaaDoorWN
import Derived.Test.YtdookfmcphmlgaaDoorWFootNe
import Derived.Test.YtdookfmcphmlgaaDoorWAt
import Derived.Test.YtdookfmcphmlgaaDoorWEqStruct
import Derived.Test.YtdookfmcphmlgaaDoorWRepsOne
import Derived.Test.YtdookfmcphmlgaaDoorWInv
import Derived.Test.YtdookfmcphmlgaaDoorWInvWords
import Derived.Test.YtdookfmcphmlgaaDoorWGuard
import Derived.Test.YtdookfmcphmlgaaDoorWNEv
import Derived.Test.YtdookfmcphmlgaaDoorWMore
namespace Go.Proofs.YtdookfmcphmlgaaDoor.Q
open Go.RowKit Go.Proofs.YtdookfmcphmlgaaDoorW.PrintWords Go.Proofs.YtdookfmcphmlgaaDoorW.PrintLast Go.Proofs.YtdookfmcphmlgaaDoorW.PrintMore
attribute [local go_sem] max2_int min2_int max_two min_two max_three min_three max_four min_four   -- for this text's walks alone
set_option linter.unusedVariables false
set_option linter.unusedSimpArgs false



def errW : Option Int → Value
  | none => .nilIface
  | some c => .iface 50 (.int .i64 c)
theorem errW_none : errW none = .nilIface := rfl
theorem errW_some (c : Int) : errW (some c) = .iface 50 (.int .i64 c) := rfl

-- the values' own types


end Go.Proofs.YtdookfmcphmlgaaDoor.Q
