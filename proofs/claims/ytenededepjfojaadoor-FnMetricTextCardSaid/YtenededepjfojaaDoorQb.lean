/- What strconv.Quote gives, as a text. -/
import Derived.Lib.QuoteLoop
import Derived.Lib.PrintData
import Derived.Laws.BytesArg
set_option linter.unusedVariables false
set_option linter.unusedSimpArgs false
namespace Go.Proofs.YtenededepjfojaaDoor.Door
open Go.Proofs Go.RowKit Go.Lib
def quoteB (s : ByteArray) : ByteArray := strOfNums (Lib.quoteZ Lib.goPrintTabs s)
theorem quoteB_size (s : ByteArray) : (quoteB s).size ≤ 10 * s.size + 2 := by
  unfold quoteB
  rw [strOfNums_size]
  exact quoteZ_length_le _ s
end Go.Proofs.YtenededepjfojaaDoor.Door
