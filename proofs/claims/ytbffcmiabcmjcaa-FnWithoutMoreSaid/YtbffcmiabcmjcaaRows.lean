/-
  No cell of these rows narrows 'for every input' (looked for: loops, veiled, ifaces, maps, wideKeys, modest, calm, conditions, laid).
  DERIVED. THE GIVEN ROWS OF THIS SEAT. 8 by the template 'for every input the law returns true; each argument reads behind the call as it read before'; 0 by the template 'total and deterministic' (their statements: YtbffcmiabcmjcaaTotals.lean).
  GIVEN WITH THE SEED: the statements are not yours to turn. If you find one false, say at which input.
  Laid BY PROGRAM, IN A SANDBOX (cutbox-rows.mjs): the forced cells as the released guide's own fill.sh prints them over the translation d6b1b9909bf507a5… (all of the seat's roots in one cut). By AI agents, Wed Nov 11 2026. No macro, syntax, notation, axiom, sorry.
-/
import Derived.Test.YtbffcmiabcmjcaaChecked
import GoSem.Claim
import GoSem.ClaimJoined
import GoSem.ClaimMapViews
import Derived.JoinedTies
import Derived.KernelRfl
namespace Go.Proofs.Ytbffcmiabcmjcaa
/- THE CELL 'sum', in the pinned program and in every row, IS THE sha256 OF THE DUMP (.gsa) THAT YtbffcmiabcmjcaaProg.lean LOADS. Nothing in Lean hashes anything: it is a label: what it is worth is what the hold of that sum in a sandbox is worth. -/
noncomputable def Try.pinned : Pinned := { name := "ytbffcmiabcmjcaa", sum := "d6b1b9909bf507a5e42d194ade2ec4cfc0aee0416c78b75859f397393d34430e", checked := Try.checked }
namespace Rows
def none {H : Type} : Left H := { results := [], args := [] }

/-- 'laws.FnSetClone': WHATEVER THE INPUT: true; the input reads as it did. -/
def fnSetCloneSpec : ChangeSpec := { name := "fnSetClone", fn := fun _ => fun
  | [d] => { results := [.lit (.bool true)], args := [d] }
  | _ => none }
def fnSetCloneRow : OpenClaim := { program := "ytbffcmiabcmjcaa", sum := "d6b1b9909bf507a5e42d194ade2ec4cfc0aee0416c78b75859f397393d34430e", func := "pub-clamour/laws.FnSetClone", spec := "fnSetClone", recurses := true, apart := false }
def FnSetCloneSaid : Prop := fnSetCloneRow.holds Try.pinned (OpenSpec.ofChange fnSetCloneSpec)

/-- ITS FALSE NEIGHBOUR: 'it returns false'. Refute it at one input. -/
def fnSetCloneWrong : ChangeSpec := { name := "fnSetClone", fn := fun _ => fun
  | [d] => { results := [.lit (.bool false)], args := [d] }
  | _ => none }
def FnSetCloneWrongFalsely : Prop := fnSetCloneRow.holds Try.pinned (OpenSpec.ofChange fnSetCloneWrong)

/-- 'laws.FnPairsOrder': WHATEVER THE INPUT: true; the input reads as it did. -/
def fnPairsOrderSpec : ChangeSpec := { name := "fnPairsOrder", fn := fun _ => fun
  | [d1, d2] => { results := [.lit (.bool true)], args := [d1, d2] }
  | _ => none }
def fnPairsOrderRow : OpenClaim := { program := "ytbffcmiabcmjcaa", sum := "d6b1b9909bf507a5e42d194ade2ec4cfc0aee0416c78b75859f397393d34430e", func := "pub-clamour/laws.FnPairsOrder", spec := "fnPairsOrder", recurses := true, apart := false }
def FnPairsOrderSaid : Prop := fnPairsOrderRow.holds Try.pinned (OpenSpec.ofChange fnPairsOrderSpec)

/-- ITS FALSE NEIGHBOUR: 'it returns false'. Refute it at one input. -/
def fnPairsOrderWrong : ChangeSpec := { name := "fnPairsOrder", fn := fun _ => fun
  | [d1, d2] => { results := [.lit (.bool false)], args := [d1, d2] }
  | _ => none }
def FnPairsOrderWrongFalsely : Prop := fnPairsOrderRow.holds Try.pinned (OpenSpec.ofChange fnPairsOrderWrong)

/-- 'laws.FnSortedPairs': WHATEVER THE INPUT: true; the input reads as it did. -/
def fnSortedPairsSpec : ChangeSpec := { name := "fnSortedPairs", fn := fun _ => fun
  | [d] => { results := [.lit (.bool true)], args := [d] }
  | _ => none }
def fnSortedPairsRow : OpenClaim := { program := "ytbffcmiabcmjcaa", sum := "d6b1b9909bf507a5e42d194ade2ec4cfc0aee0416c78b75859f397393d34430e", func := "pub-clamour/laws.FnSortedPairs", spec := "fnSortedPairs", recurses := true, apart := false }
def FnSortedPairsSaid : Prop := fnSortedPairsRow.holds Try.pinned (OpenSpec.ofChange fnSortedPairsSpec)

/-- ITS FALSE NEIGHBOUR: 'it returns false'. Refute it at one input. -/
def fnSortedPairsWrong : ChangeSpec := { name := "fnSortedPairs", fn := fun _ => fun
  | [d] => { results := [.lit (.bool false)], args := [d] }
  | _ => none }
def FnSortedPairsWrongFalsely : Prop := fnSortedPairsRow.holds Try.pinned (OpenSpec.ofChange fnSortedPairsWrong)

/-- 'laws.FnWithoutMore': WHATEVER THE INPUT: true; the input reads as it did. -/
def fnWithoutMoreSpec : ChangeSpec := { name := "fnWithoutMore", fn := fun _ => fun
  | [d1, d2, d3] => { results := [.lit (.bool true)], args := [d1, d2, d3] }
  | _ => none }
def fnWithoutMoreRow : OpenClaim := { program := "ytbffcmiabcmjcaa", sum := "d6b1b9909bf507a5e42d194ade2ec4cfc0aee0416c78b75859f397393d34430e", func := "pub-clamour/laws.FnWithoutMore", spec := "fnWithoutMore", recurses := true, apart := false }
def FnWithoutMoreSaid : Prop := fnWithoutMoreRow.holds Try.pinned (OpenSpec.ofChange fnWithoutMoreSpec)

/-- ITS FALSE NEIGHBOUR: 'it returns false'. Refute it at one input. -/
def fnWithoutMoreWrong : ChangeSpec := { name := "fnWithoutMore", fn := fun _ => fun
  | [d1, d2, d3] => { results := [.lit (.bool false)], args := [d1, d2, d3] }
  | _ => none }
def FnWithoutMoreWrongFalsely : Prop := fnWithoutMoreRow.holds Try.pinned (OpenSpec.ofChange fnWithoutMoreWrong)

/-- 'laws.FnSetMergeMore': WHATEVER THE INPUT: true; the input reads as it did. -/
def fnSetMergeMoreSpec : ChangeSpec := { name := "fnSetMergeMore", fn := fun _ => fun
  | [d1, d2, d3] => { results := [.lit (.bool true)], args := [d1, d2, d3] }
  | _ => none }
def fnSetMergeMoreRow : OpenClaim := { program := "ytbffcmiabcmjcaa", sum := "d6b1b9909bf507a5e42d194ade2ec4cfc0aee0416c78b75859f397393d34430e", func := "pub-clamour/laws.FnSetMergeMore", spec := "fnSetMergeMore", recurses := true, apart := false }
def FnSetMergeMoreSaid : Prop := fnSetMergeMoreRow.holds Try.pinned (OpenSpec.ofChange fnSetMergeMoreSpec)

/-- ITS FALSE NEIGHBOUR: 'it returns false'. Refute it at one input. -/
def fnSetMergeMoreWrong : ChangeSpec := { name := "fnSetMergeMore", fn := fun _ => fun
  | [d1, d2, d3] => { results := [.lit (.bool false)], args := [d1, d2, d3] }
  | _ => none }
def FnSetMergeMoreWrongFalsely : Prop := fnSetMergeMoreRow.holds Try.pinned (OpenSpec.ofChange fnSetMergeMoreWrong)

/-- 'laws.FnSetOrder': WHATEVER THE INPUT: true; the input reads as it did. -/
def fnSetOrderSpec : ChangeSpec := { name := "fnSetOrder", fn := fun _ => fun
  | [d1, d2, d3] => { results := [.lit (.bool true)], args := [d1, d2, d3] }
  | _ => none }
def fnSetOrderRow : OpenClaim := { program := "ytbffcmiabcmjcaa", sum := "d6b1b9909bf507a5e42d194ade2ec4cfc0aee0416c78b75859f397393d34430e", func := "pub-clamour/laws.FnSetOrder", spec := "fnSetOrder", unfollowed := true, recurses := true, apart := false }
def FnSetOrderSaid : Prop := fnSetOrderRow.holds Try.pinned (OpenSpec.ofChange fnSetOrderSpec)

/-- ITS FALSE NEIGHBOUR: 'it returns false'. Refute it at one input. -/
def fnSetOrderWrong : ChangeSpec := { name := "fnSetOrder", fn := fun _ => fun
  | [d1, d2, d3] => { results := [.lit (.bool false)], args := [d1, d2, d3] }
  | _ => none }
def FnSetOrderWrongFalsely : Prop := fnSetOrderRow.holds Try.pinned (OpenSpec.ofChange fnSetOrderWrong)

/-- 'laws.FnSignatures': WHATEVER THE INPUT: true; the input reads as it did. -/
def fnSignaturesSpec : ChangeSpec := { name := "fnSignatures", fn := fun _ => fun
  | [d1, d2] => { results := [.lit (.bool true)], args := [d1, d2] }
  | _ => none }
def fnSignaturesRow : OpenClaim := { program := "ytbffcmiabcmjcaa", sum := "d6b1b9909bf507a5e42d194ade2ec4cfc0aee0416c78b75859f397393d34430e", func := "pub-clamour/laws.FnSignatures", spec := "fnSignatures", unfollowed := true, recurses := true, apart := false }
def FnSignaturesSaid : Prop := fnSignaturesRow.holds Try.pinned (OpenSpec.ofChange fnSignaturesSpec)

/-- ITS FALSE NEIGHBOUR: 'it returns false'. Refute it at one input. -/
def fnSignaturesWrong : ChangeSpec := { name := "fnSignatures", fn := fun _ => fun
  | [d1, d2] => { results := [.lit (.bool false)], args := [d1, d2] }
  | _ => none }
def FnSignaturesWrongFalsely : Prop := fnSignaturesRow.holds Try.pinned (OpenSpec.ofChange fnSignaturesWrong)

/-- 'laws.FnPrints': WHATEVER THE INPUT: true; the input reads as it did. -/
def fnPrintsSpec : ChangeSpec := { name := "fnPrints", fn := fun _ => fun
  | [d1, d2] => { results := [.lit (.bool true)], args := [d1, d2] }
  | _ => none }
def fnPrintsRow : OpenClaim := { program := "ytbffcmiabcmjcaa", sum := "d6b1b9909bf507a5e42d194ade2ec4cfc0aee0416c78b75859f397393d34430e", func := "pub-clamour/laws.FnPrints", spec := "fnPrints", unfollowed := true, recurses := true, apart := false }
def FnPrintsSaid : Prop := fnPrintsRow.holds Try.pinned (OpenSpec.ofChange fnPrintsSpec)

/-- ITS FALSE NEIGHBOUR: 'it returns false'. Refute it at one input. -/
def fnPrintsWrong : ChangeSpec := { name := "fnPrints", fn := fun _ => fun
  | [d1, d2] => { results := [.lit (.bool false)], args := [d1, d2] }
  | _ => none }
def FnPrintsWrongFalsely : Prop := fnPrintsRow.holds Try.pinned (OpenSpec.ofChange fnPrintsWrong)

/- THE SECOND FORM. 'bulk': how many values and letters a reading holds, each counted each time it is reached (what is shared counts as often as it is met; a slice's spare places count too). A statement '..UptoSaid' is the law's where the arguments, and the package variables that the reading takes, are together of bulk at most 1048576: NARROWER than '..Said'. Prove '..Said' where nothing that the law and all that it calls make is longer than what came in: it says more and counts as full. Else prove '..UptoSaid'. A law counts once. -/
mutual
def uptoBulk {H : Type} : DataW H → Nat
  | .lit (.string bytes) => bytes.length + 1
  | .lit _ => 1
  | .nil => 1
  | .ptr d => uptoBulk d + 1
  | .slice elems spare => uptoBulkAll elems + uptoBulkAll spare + 1
  | .agg parts => uptoBulkAll parts + 1
  | .iface _ d => uptoBulk d + 1
  | .map entries => uptoBulkEntries entries + 1
  | .held _ => 1
def uptoBulkAll {H : Type} : List (DataW H) → Nat
  | [] => 0
  | d :: r => uptoBulk d + uptoBulkAll r
def uptoBulkEntries {H : Type} : List (Lit × DataW H) → Nat
  | [] => 0
  | x :: r => uptoBulkEntry x + uptoBulkEntries r
def uptoBulkEntry {H : Type} : Lit × DataW H → Nat
  | (.string bytes, d) => bytes.length + uptoBulk d + 1
  | (_, d) => uptoBulk d + 1
 end
def uptoSmall : (H : Type) → List (DataW H) → Bool := fun _ ds => decide (uptoBulkAll ds ≤ 1048576)
def OpenSpec.upto (s : _root_.Go.ChangeSpec) : _root_.Go.OpenSpec := { _root_.Go.OpenSpec.ofChange s with cond := some uptoSmall }

/-- 'laws.FnSetClone', WHERE WHAT IT READS IS OF BULK AT MOST 1048576: true; the input reads as it did. -/
def fnSetCloneUptoRow : OpenClaim := { program := "ytbffcmiabcmjcaa", sum := "d6b1b9909bf507a5e42d194ade2ec4cfc0aee0416c78b75859f397393d34430e", func := "pub-clamour/laws.FnSetClone", spec := "fnSetClone", recurses := true, apart := false, narrowed := true }
def FnSetCloneUptoSaid : Prop := fnSetCloneUptoRow.holds Try.pinned (OpenSpec.upto fnSetCloneSpec)

/-- 'laws.FnPairsOrder', WHERE WHAT IT READS IS OF BULK AT MOST 1048576: true; the input reads as it did. -/
def fnPairsOrderUptoRow : OpenClaim := { program := "ytbffcmiabcmjcaa", sum := "d6b1b9909bf507a5e42d194ade2ec4cfc0aee0416c78b75859f397393d34430e", func := "pub-clamour/laws.FnPairsOrder", spec := "fnPairsOrder", recurses := true, apart := false, narrowed := true }
def FnPairsOrderUptoSaid : Prop := fnPairsOrderUptoRow.holds Try.pinned (OpenSpec.upto fnPairsOrderSpec)

/-- 'laws.FnSortedPairs', WHERE WHAT IT READS IS OF BULK AT MOST 1048576: true; the input reads as it did. -/
def fnSortedPairsUptoRow : OpenClaim := { program := "ytbffcmiabcmjcaa", sum := "d6b1b9909bf507a5e42d194ade2ec4cfc0aee0416c78b75859f397393d34430e", func := "pub-clamour/laws.FnSortedPairs", spec := "fnSortedPairs", recurses := true, apart := false, narrowed := true }
def FnSortedPairsUptoSaid : Prop := fnSortedPairsUptoRow.holds Try.pinned (OpenSpec.upto fnSortedPairsSpec)

/-- 'laws.FnWithoutMore', WHERE WHAT IT READS IS OF BULK AT MOST 1048576: true; the input reads as it did. -/
def fnWithoutMoreUptoRow : OpenClaim := { program := "ytbffcmiabcmjcaa", sum := "d6b1b9909bf507a5e42d194ade2ec4cfc0aee0416c78b75859f397393d34430e", func := "pub-clamour/laws.FnWithoutMore", spec := "fnWithoutMore", recurses := true, apart := false, narrowed := true }
def FnWithoutMoreUptoSaid : Prop := fnWithoutMoreUptoRow.holds Try.pinned (OpenSpec.upto fnWithoutMoreSpec)

/-- 'laws.FnSetMergeMore', WHERE WHAT IT READS IS OF BULK AT MOST 1048576: true; the input reads as it did. -/
def fnSetMergeMoreUptoRow : OpenClaim := { program := "ytbffcmiabcmjcaa", sum := "d6b1b9909bf507a5e42d194ade2ec4cfc0aee0416c78b75859f397393d34430e", func := "pub-clamour/laws.FnSetMergeMore", spec := "fnSetMergeMore", recurses := true, apart := false, narrowed := true }
def FnSetMergeMoreUptoSaid : Prop := fnSetMergeMoreUptoRow.holds Try.pinned (OpenSpec.upto fnSetMergeMoreSpec)

/-- 'laws.FnSetOrder', WHERE WHAT IT READS IS OF BULK AT MOST 1048576: true; the input reads as it did. -/
def fnSetOrderUptoRow : OpenClaim := { program := "ytbffcmiabcmjcaa", sum := "d6b1b9909bf507a5e42d194ade2ec4cfc0aee0416c78b75859f397393d34430e", func := "pub-clamour/laws.FnSetOrder", spec := "fnSetOrder", unfollowed := true, recurses := true, apart := false, narrowed := true }
def FnSetOrderUptoSaid : Prop := fnSetOrderUptoRow.holds Try.pinned (OpenSpec.upto fnSetOrderSpec)

/-- 'laws.FnSignatures', WHERE WHAT IT READS IS OF BULK AT MOST 1048576: true; the input reads as it did. -/
def fnSignaturesUptoRow : OpenClaim := { program := "ytbffcmiabcmjcaa", sum := "d6b1b9909bf507a5e42d194ade2ec4cfc0aee0416c78b75859f397393d34430e", func := "pub-clamour/laws.FnSignatures", spec := "fnSignatures", unfollowed := true, recurses := true, apart := false, narrowed := true }
def FnSignaturesUptoSaid : Prop := fnSignaturesUptoRow.holds Try.pinned (OpenSpec.upto fnSignaturesSpec)

/-- 'laws.FnPrints', WHERE WHAT IT READS IS OF BULK AT MOST 1048576: true; the input reads as it did. -/
def fnPrintsUptoRow : OpenClaim := { program := "ytbffcmiabcmjcaa", sum := "d6b1b9909bf507a5e42d194ade2ec4cfc0aee0416c78b75859f397393d34430e", func := "pub-clamour/laws.FnPrints", spec := "fnPrints", unfollowed := true, recurses := true, apart := false, narrowed := true }
def FnPrintsUptoSaid : Prop := fnPrintsUptoRow.holds Try.pinned (OpenSpec.upto fnPrintsSpec)

end Rows
end Go.Proofs.Ytbffcmiabcmjcaa
