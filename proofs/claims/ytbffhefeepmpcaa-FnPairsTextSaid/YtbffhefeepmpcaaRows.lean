/-
  No cell of these rows narrows 'for every input' (looked for: loops, veiled, ifaces, maps, wideKeys, modest, calm, conditions, laid).
  DERIVED. THE GIVEN ROWS OF THIS SEAT. 10 by the template 'for every input the law returns true; each argument reads behind the call as it read before'; 0 by the template 'total and deterministic' (their statements: YtbffhefeepmpcaaTotals.lean).
  GIVEN WITH THE SEED: the statements are not yours to turn. If you find one false, say at which input.
  Laid BY PROGRAM, IN A SANDBOX (cutbox-rows.mjs): the forced cells as the released guide's own fill.sh prints them over the translation d0ccae837e766ee3… (all of the seat's roots in one cut). By AI agents, Wed Nov 11 2026. No macro, syntax, notation, axiom, sorry.
-/
import Derived.Test.YtbffhefeepmpcaaChecked
import GoSem.Claim
import GoSem.ClaimJoined
import GoSem.ClaimMapViews
import Derived.JoinedTies
import Derived.KernelRfl
namespace Go.Proofs.Ytbffhefeepmpcaa
/- THE CELL 'sum', in the pinned program and in every row, IS THE sha256 OF THE DUMP (.gsa) THAT YtbffhefeepmpcaaProg.lean LOADS. Nothing in Lean hashes anything: it is a label: what it is worth is what the hold of that sum in a sandbox is worth. -/
noncomputable def Try.pinned : Pinned := { name := "ytbffhefeepmpcaa", sum := "d0ccae837e766ee3833257d4c555eae68925f688603bfee503776dc58db57538", checked := Try.checked }
namespace Rows
def none {H : Type} : Left H := { results := [], args := [] }

/-- 'laws.FnStates': WHATEVER THE INPUT: true; the input reads as it did. -/
def fnStatesSpec : ChangeSpec := { name := "fnStates", fn := fun _ => fun
  | [d1, d2] => { results := [.lit (.bool true)], args := [d1, d2] }
  | _ => none }
def fnStatesRow : OpenClaim := { program := "ytbffhefeepmpcaa", sum := "d0ccae837e766ee3833257d4c555eae68925f688603bfee503776dc58db57538", func := "pub-clamour/laws.FnStates", spec := "fnStates", unfollowed := true, recurses := true, apart := false }
def FnStatesSaid : Prop := fnStatesRow.holds Try.pinned (OpenSpec.ofChange fnStatesSpec)

/-- ITS FALSE NEIGHBOUR: 'it returns false'. Refute it at one input. -/
def fnStatesWrong : ChangeSpec := { name := "fnStates", fn := fun _ => fun
  | [d1, d2] => { results := [.lit (.bool false)], args := [d1, d2] }
  | _ => none }
def FnStatesWrongFalsely : Prop := fnStatesRow.holds Try.pinned (OpenSpec.ofChange fnStatesWrong)

/-- 'laws.FnSetEqual': WHATEVER THE INPUT: true; the input reads as it did. -/
def fnSetEqualSpec : ChangeSpec := { name := "fnSetEqual", fn := fun _ => fun
  | [d1, d2] => { results := [.lit (.bool true)], args := [d1, d2] }
  | _ => none }
def fnSetEqualRow : OpenClaim := { program := "ytbffhefeepmpcaa", sum := "d0ccae837e766ee3833257d4c555eae68925f688603bfee503776dc58db57538", func := "pub-clamour/laws.FnSetEqual", spec := "fnSetEqual", apart := false }
def FnSetEqualSaid : Prop := fnSetEqualRow.holds Try.pinned (OpenSpec.ofChange fnSetEqualSpec)

/-- ITS FALSE NEIGHBOUR: 'it returns false'. Refute it at one input. -/
def fnSetEqualWrong : ChangeSpec := { name := "fnSetEqual", fn := fun _ => fun
  | [d1, d2] => { results := [.lit (.bool false)], args := [d1, d2] }
  | _ => none }
def FnSetEqualWrongFalsely : Prop := fnSetEqualRow.holds Try.pinned (OpenSpec.ofChange fnSetEqualWrong)

/-- 'laws.FnBefore': WHATEVER THE INPUT: true; the input reads as it did. -/
def fnBeforeSpec : ChangeSpec := { name := "fnBefore", fn := fun _ => fun
  | [d1, d2, d3] => { results := [.lit (.bool true)], args := [d1, d2, d3] }
  | _ => none }
def fnBeforeRow : OpenClaim := { program := "ytbffhefeepmpcaa", sum := "d0ccae837e766ee3833257d4c555eae68925f688603bfee503776dc58db57538", func := "pub-clamour/laws.FnBefore", spec := "fnBefore", apart := false }
def FnBeforeSaid : Prop := fnBeforeRow.holds Try.pinned (OpenSpec.ofChange fnBeforeSpec)

/-- ITS FALSE NEIGHBOUR: 'it returns false'. Refute it at one input. -/
def fnBeforeWrong : ChangeSpec := { name := "fnBefore", fn := fun _ => fun
  | [d1, d2, d3] => { results := [.lit (.bool false)], args := [d1, d2, d3] }
  | _ => none }
def FnBeforeWrongFalsely : Prop := fnBeforeRow.holds Try.pinned (OpenSpec.ofChange fnBeforeWrong)

/-- 'laws.FnReasons': WHATEVER THE INPUT: true; the input reads as it did. -/
def fnReasonsSpec : ChangeSpec := { name := "fnReasons", fn := fun _ => fun
  | [d1, d2] => { results := [.lit (.bool true)], args := [d1, d2] }
  | _ => none }
def fnReasonsRow : OpenClaim := { program := "ytbffhefeepmpcaa", sum := "d0ccae837e766ee3833257d4c555eae68925f688603bfee503776dc58db57538", func := "pub-clamour/laws.FnReasons", spec := "fnReasons", apart := false }
def FnReasonsSaid : Prop := fnReasonsRow.holds Try.pinned (OpenSpec.ofChange fnReasonsSpec)

/-- ITS FALSE NEIGHBOUR: 'it returns false'. Refute it at one input. -/
def fnReasonsWrong : ChangeSpec := { name := "fnReasons", fn := fun _ => fun
  | [d1, d2] => { results := [.lit (.bool false)], args := [d1, d2] }
  | _ => none }
def FnReasonsWrongFalsely : Prop := fnReasonsRow.holds Try.pinned (OpenSpec.ofChange fnReasonsWrong)

/-- 'laws.FnFastPrint': WHATEVER THE INPUT: true; the input reads as it did. -/
def fnFastPrintSpec : ChangeSpec := { name := "fnFastPrint", fn := fun _ => fun
  | [d1, d2] => { results := [.lit (.bool true)], args := [d1, d2] }
  | _ => none }
def fnFastPrintRow : OpenClaim := { program := "ytbffhefeepmpcaa", sum := "d0ccae837e766ee3833257d4c555eae68925f688603bfee503776dc58db57538", func := "pub-clamour/laws.FnFastPrint", spec := "fnFastPrint", apart := false }
def FnFastPrintSaid : Prop := fnFastPrintRow.holds Try.pinned (OpenSpec.ofChange fnFastPrintSpec)

/-- ITS FALSE NEIGHBOUR: 'it returns false'. Refute it at one input. -/
def fnFastPrintWrong : ChangeSpec := { name := "fnFastPrint", fn := fun _ => fun
  | [d1, d2] => { results := [.lit (.bool false)], args := [d1, d2] }
  | _ => none }
def FnFastPrintWrongFalsely : Prop := fnFastPrintRow.holds Try.pinned (OpenSpec.ofChange fnFastPrintWrong)

/-- 'laws.FnMatchAll': WHATEVER THE INPUT: true; the input reads as it did. -/
def fnMatchAllSpec : ChangeSpec := { name := "fnMatchAll", fn := fun _ => fun
  | [d1, d2] => { results := [.lit (.bool true)], args := [d1, d2] }
  | _ => none }
def fnMatchAllRow : OpenClaim := { program := "ytbffhefeepmpcaa", sum := "d0ccae837e766ee3833257d4c555eae68925f688603bfee503776dc58db57538", func := "pub-clamour/laws.FnMatchAll", spec := "fnMatchAll", apart := false }
def FnMatchAllSaid : Prop := fnMatchAllRow.holds Try.pinned (OpenSpec.ofChange fnMatchAllSpec)

/-- ITS FALSE NEIGHBOUR: 'it returns false'. Refute it at one input. -/
def fnMatchAllWrong : ChangeSpec := { name := "fnMatchAll", fn := fun _ => fun
  | [d1, d2] => { results := [.lit (.bool false)], args := [d1, d2] }
  | _ => none }
def FnMatchAllWrongFalsely : Prop := fnMatchAllRow.holds Try.pinned (OpenSpec.ofChange fnMatchAllWrong)

/-- 'laws.FnMatchAny': WHATEVER THE INPUT: true; the input reads as it did. -/
def fnMatchAnySpec : ChangeSpec := { name := "fnMatchAny", fn := fun _ => fun
  | [d1, d2] => { results := [.lit (.bool true)], args := [d1, d2] }
  | _ => none }
def fnMatchAnyRow : OpenClaim := { program := "ytbffhefeepmpcaa", sum := "d0ccae837e766ee3833257d4c555eae68925f688603bfee503776dc58db57538", func := "pub-clamour/laws.FnMatchAny", spec := "fnMatchAny", apart := false }
def FnMatchAnySaid : Prop := fnMatchAnyRow.holds Try.pinned (OpenSpec.ofChange fnMatchAnySpec)

/-- ITS FALSE NEIGHBOUR: 'it returns false'. Refute it at one input. -/
def fnMatchAnyWrong : ChangeSpec := { name := "fnMatchAny", fn := fun _ => fun
  | [d1, d2] => { results := [.lit (.bool false)], args := [d1, d2] }
  | _ => none }
def FnMatchAnyWrongFalsely : Prop := fnMatchAnyRow.holds Try.pinned (OpenSpec.ofChange fnMatchAnyWrong)

/-- 'laws.FnResolved': WHATEVER THE INPUT: true; the input reads as it did. -/
def fnResolvedSpec : ChangeSpec := { name := "fnResolved", fn := fun _ => fun
  | [d1, d2] => { results := [.lit (.bool true)], args := [d1, d2] }
  | _ => none }
def fnResolvedRow : OpenClaim := { program := "ytbffhefeepmpcaa", sum := "d0ccae837e766ee3833257d4c555eae68925f688603bfee503776dc58db57538", func := "pub-clamour/laws.FnResolved", spec := "fnResolved", apart := false }
def FnResolvedSaid : Prop := fnResolvedRow.holds Try.pinned (OpenSpec.ofChange fnResolvedSpec)

/-- ITS FALSE NEIGHBOUR: 'it returns false'. Refute it at one input. -/
def fnResolvedWrong : ChangeSpec := { name := "fnResolved", fn := fun _ => fun
  | [d1, d2] => { results := [.lit (.bool false)], args := [d1, d2] }
  | _ => none }
def FnResolvedWrongFalsely : Prop := fnResolvedRow.holds Try.pinned (OpenSpec.ofChange fnResolvedWrong)

/-- 'laws.FnPairsText': WHATEVER THE INPUT: true; the input reads as it did. -/
def fnPairsTextSpec : ChangeSpec := { name := "fnPairsText", fn := fun _ => fun
  | [d] => { results := [.lit (.bool true)], args := [d] }
  | _ => none }
def fnPairsTextRow : OpenClaim := { program := "ytbffhefeepmpcaa", sum := "d0ccae837e766ee3833257d4c555eae68925f688603bfee503776dc58db57538", func := "pub-clamour/laws.FnPairsText", spec := "fnPairsText", inPlace := ["internal/abi.NoEscape"], apart := false }
def FnPairsTextSaid : Prop := fnPairsTextRow.holds Try.pinned (OpenSpec.ofChange fnPairsTextSpec)

/-- ITS FALSE NEIGHBOUR: 'it returns false'. Refute it at one input. -/
def fnPairsTextWrong : ChangeSpec := { name := "fnPairsText", fn := fun _ => fun
  | [d] => { results := [.lit (.bool false)], args := [d] }
  | _ => none }
def FnPairsTextWrongFalsely : Prop := fnPairsTextRow.holds Try.pinned (OpenSpec.ofChange fnPairsTextWrong)

/-- 'laws.FnJoined': WHATEVER THE INPUT: true; the input reads as it did. -/
def fnJoinedSpec : ChangeSpec := { name := "fnJoined", fn := fun _ => fun
  | [d1, d2] => { results := [.lit (.bool true)], args := [d1, d2] }
  | _ => none }
def fnJoinedRow : OpenClaim := { program := "ytbffhefeepmpcaa", sum := "d0ccae837e766ee3833257d4c555eae68925f688603bfee503776dc58db57538", func := "pub-clamour/laws.FnJoined", spec := "fnJoined", inPlace := ["internal/abi.NoEscape", "internal/bytealg.MakeNoZero"], apart := false }
def FnJoinedSaid : Prop := fnJoinedRow.holds Try.pinned (OpenSpec.ofChange fnJoinedSpec)

/-- ITS FALSE NEIGHBOUR: 'it returns false'. Refute it at one input. -/
def fnJoinedWrong : ChangeSpec := { name := "fnJoined", fn := fun _ => fun
  | [d1, d2] => { results := [.lit (.bool false)], args := [d1, d2] }
  | _ => none }
def FnJoinedWrongFalsely : Prop := fnJoinedRow.holds Try.pinned (OpenSpec.ofChange fnJoinedWrong)

/- THE SECOND FORM. 'bulk': how many values and letters a reading holds, each counted each time it is reached (what is shared counts as often as it is met; a slice's spare places count too). A statement '..UptoSaid' is the law's where the arguments, and the package variables that the reading takes, are together of bulk at most 1048576: NARROWER than '..Said'. Prove '..Said' where nothing that the law and all that it calls make is longer than what came in: it says more and counts as full. Else prove '..UptoSaid'. A law counts once. -/
mutual
def uptoBulk {H : Type} : DataW H → Nat
  | .lit (.string bytes) => bytes.length + 1
  | .lit _ => 1
  | .nil => 1
  | .ptr d => uptoBulk d + 1
  | .slice elems spare => uptoBulkAll elems + uptoBulkAll spare + 1
  | .agg parts => uptoBulkAll parts + 1
  | .iface _ d => uptoBulk d + 1
  | .map entries => uptoBulkEntries entries + 1
  | .held _ => 1
def uptoBulkAll {H : Type} : List (DataW H) → Nat
  | [] => 0
  | d :: r => uptoBulk d + uptoBulkAll r
def uptoBulkEntries {H : Type} : List (Lit × DataW H) → Nat
  | [] => 0
  | x :: r => uptoBulkEntry x + uptoBulkEntries r
def uptoBulkEntry {H : Type} : Lit × DataW H → Nat
  | (.string bytes, d) => bytes.length + uptoBulk d + 1
  | (_, d) => uptoBulk d + 1
 end
def uptoSmall : (H : Type) → List (DataW H) → Bool := fun _ ds => decide (uptoBulkAll ds ≤ 1048576)
def OpenSpec.upto (s : _root_.Go.ChangeSpec) : _root_.Go.OpenSpec := { _root_.Go.OpenSpec.ofChange s with cond := some uptoSmall }

/-- 'laws.FnStates', WHERE WHAT IT READS IS OF BULK AT MOST 1048576: true; the input reads as it did. -/
def fnStatesUptoRow : OpenClaim := { program := "ytbffhefeepmpcaa", sum := "d0ccae837e766ee3833257d4c555eae68925f688603bfee503776dc58db57538", func := "pub-clamour/laws.FnStates", spec := "fnStates", unfollowed := true, recurses := true, apart := false, narrowed := true }
def FnStatesUptoSaid : Prop := fnStatesUptoRow.holds Try.pinned (OpenSpec.upto fnStatesSpec)

/-- 'laws.FnSetEqual', WHERE WHAT IT READS IS OF BULK AT MOST 1048576: true; the input reads as it did. -/
def fnSetEqualUptoRow : OpenClaim := { program := "ytbffhefeepmpcaa", sum := "d0ccae837e766ee3833257d4c555eae68925f688603bfee503776dc58db57538", func := "pub-clamour/laws.FnSetEqual", spec := "fnSetEqual", apart := false, narrowed := true }
def FnSetEqualUptoSaid : Prop := fnSetEqualUptoRow.holds Try.pinned (OpenSpec.upto fnSetEqualSpec)

/-- 'laws.FnBefore', WHERE WHAT IT READS IS OF BULK AT MOST 1048576: true; the input reads as it did. -/
def fnBeforeUptoRow : OpenClaim := { program := "ytbffhefeepmpcaa", sum := "d0ccae837e766ee3833257d4c555eae68925f688603bfee503776dc58db57538", func := "pub-clamour/laws.FnBefore", spec := "fnBefore", apart := false, narrowed := true }
def FnBeforeUptoSaid : Prop := fnBeforeUptoRow.holds Try.pinned (OpenSpec.upto fnBeforeSpec)

/-- 'laws.FnReasons', WHERE WHAT IT READS IS OF BULK AT MOST 1048576: true; the input reads as it did. -/
def fnReasonsUptoRow : OpenClaim := { program := "ytbffhefeepmpcaa", sum := "d0ccae837e766ee3833257d4c555eae68925f688603bfee503776dc58db57538", func := "pub-clamour/laws.FnReasons", spec := "fnReasons", apart := false, narrowed := true }
def FnReasonsUptoSaid : Prop := fnReasonsUptoRow.holds Try.pinned (OpenSpec.upto fnReasonsSpec)

/-- 'laws.FnFastPrint', WHERE WHAT IT READS IS OF BULK AT MOST 1048576: true; the input reads as it did. -/
def fnFastPrintUptoRow : OpenClaim := { program := "ytbffhefeepmpcaa", sum := "d0ccae837e766ee3833257d4c555eae68925f688603bfee503776dc58db57538", func := "pub-clamour/laws.FnFastPrint", spec := "fnFastPrint", apart := false, narrowed := true }
def FnFastPrintUptoSaid : Prop := fnFastPrintUptoRow.holds Try.pinned (OpenSpec.upto fnFastPrintSpec)

/-- 'laws.FnMatchAll', WHERE WHAT IT READS IS OF BULK AT MOST 1048576: true; the input reads as it did. -/
def fnMatchAllUptoRow : OpenClaim := { program := "ytbffhefeepmpcaa", sum := "d0ccae837e766ee3833257d4c555eae68925f688603bfee503776dc58db57538", func := "pub-clamour/laws.FnMatchAll", spec := "fnMatchAll", apart := false, narrowed := true }
def FnMatchAllUptoSaid : Prop := fnMatchAllUptoRow.holds Try.pinned (OpenSpec.upto fnMatchAllSpec)

/-- 'laws.FnMatchAny', WHERE WHAT IT READS IS OF BULK AT MOST 1048576: true; the input reads as it did. -/
def fnMatchAnyUptoRow : OpenClaim := { program := "ytbffhefeepmpcaa", sum := "d0ccae837e766ee3833257d4c555eae68925f688603bfee503776dc58db57538", func := "pub-clamour/laws.FnMatchAny", spec := "fnMatchAny", apart := false, narrowed := true }
def FnMatchAnyUptoSaid : Prop := fnMatchAnyUptoRow.holds Try.pinned (OpenSpec.upto fnMatchAnySpec)

/-- 'laws.FnResolved', WHERE WHAT IT READS IS OF BULK AT MOST 1048576: true; the input reads as it did. -/
def fnResolvedUptoRow : OpenClaim := { program := "ytbffhefeepmpcaa", sum := "d0ccae837e766ee3833257d4c555eae68925f688603bfee503776dc58db57538", func := "pub-clamour/laws.FnResolved", spec := "fnResolved", apart := false, narrowed := true }
def FnResolvedUptoSaid : Prop := fnResolvedUptoRow.holds Try.pinned (OpenSpec.upto fnResolvedSpec)

/-- 'laws.FnPairsText', WHERE WHAT IT READS IS OF BULK AT MOST 1048576: true; the input reads as it did. -/
def fnPairsTextUptoRow : OpenClaim := { program := "ytbffhefeepmpcaa", sum := "d0ccae837e766ee3833257d4c555eae68925f688603bfee503776dc58db57538", func := "pub-clamour/laws.FnPairsText", spec := "fnPairsText", inPlace := ["internal/abi.NoEscape"], apart := false, narrowed := true }
def FnPairsTextUptoSaid : Prop := fnPairsTextUptoRow.holds Try.pinned (OpenSpec.upto fnPairsTextSpec)

/-- 'laws.FnJoined', WHERE WHAT IT READS IS OF BULK AT MOST 1048576: true; the input reads as it did. -/
def fnJoinedUptoRow : OpenClaim := { program := "ytbffhefeepmpcaa", sum := "d0ccae837e766ee3833257d4c555eae68925f688603bfee503776dc58db57538", func := "pub-clamour/laws.FnJoined", spec := "fnJoined", inPlace := ["internal/abi.NoEscape", "internal/bytealg.MakeNoZero"], apart := false, narrowed := true }
def FnJoinedUptoSaid : Prop := fnJoinedUptoRow.holds Try.pinned (OpenSpec.upto fnJoinedSpec)

end Rows
end Go.Proofs.Ytbffhefeepmpcaa
