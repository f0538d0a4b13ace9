/-
  No cell of these rows narrows 'for every input' (looked for: loops, veiled, ifaces, maps, wideKeys, modest, calm, conditions, laid).
  DERIVED. THE GIVEN ROWS OF THIS SEAT. 11 by the template 'for every input the law returns true; each argument reads behind the call as it read before'; 0 by the template 'total and deterministic' (their statements: YtpoedohdcccpiaaTotals.lean).
  GIVEN WITH THE SEED: the statements are not yours to turn. If you find one false, say at which input.
  Laid BY PROGRAM, IN A SANDBOX (cutbox-rows.mjs): the forced cells as the released guide's own fill.sh prints them over the translation cf7030a8d3919a2c… (all of the seat's roots in one cut). By AI agents, Wed Nov 11 2026. No macro, syntax, notation, axiom, sorry.
-/
import Derived.Test.YtpoedohdcccpiaaChecked
import GoSem.Claim
import GoSem.ClaimJoined
import GoSem.ClaimMapViews
import Derived.JoinedTies
import Derived.KernelRfl
namespace Go.Proofs.Ytpoedohdcccpiaa
/- THE CELL 'sum', in the pinned program and in every row, IS THE sha256 OF THE DUMP (.gsa) THAT YtpoedohdcccpiaaProg.lean LOADS. Nothing in Lean hashes anything: it is a label: what it is worth is what the hold of that sum in a sandbox is worth. -/
noncomputable def Try.pinned : Pinned := { name := "ytpoedohdcccpiaa", sum := "cf7030a8d3919a2cf03d8b086b92998b7de7b66c4f3a0a18eca63f1458db40cf", checked := Try.checked }
namespace Rows
def none {H : Type} : Left H := { results := [], args := [] }

/-- 'laws.FnCommonSuffix': WHATEVER THE INPUT: true; the input reads as it did. -/
def fnCommonSuffixSpec : ChangeSpec := { name := "fnCommonSuffix", fn := fun _ => fun
  | [d1, d2] => { results := [.lit (.bool true)], args := [d1, d2] }
  | _ => none }
def fnCommonSuffixRow : OpenClaim := { program := "ytpoedohdcccpiaa", sum := "cf7030a8d3919a2cf03d8b086b92998b7de7b66c4f3a0a18eca63f1458db40cf", func := "loop.example/pub-g01460/laws.FnCommonSuffix", spec := "fnCommonSuffix", apart := false }
def FnCommonSuffixSaid : Prop := fnCommonSuffixRow.holds Try.pinned (OpenSpec.ofChange fnCommonSuffixSpec)

/-- ITS FALSE NEIGHBOUR: 'it returns false'. Refute it at one input. -/
def fnCommonSuffixWrong : ChangeSpec := { name := "fnCommonSuffix", fn := fun _ => fun
  | [d1, d2] => { results := [.lit (.bool false)], args := [d1, d2] }
  | _ => none }
def FnCommonSuffixWrongFalsely : Prop := fnCommonSuffixRow.holds Try.pinned (OpenSpec.ofChange fnCommonSuffixWrong)

/-- 'laws.FnSuffixSkips': WHATEVER THE INPUT: true; the input reads as it did. -/
def fnSuffixSkipsSpec : ChangeSpec := { name := "fnSuffixSkips", fn := fun _ => fun
  | [d] => { results := [.lit (.bool true)], args := [d] }
  | _ => none }
def fnSuffixSkipsRow : OpenClaim := { program := "ytpoedohdcccpiaa", sum := "cf7030a8d3919a2cf03d8b086b92998b7de7b66c4f3a0a18eca63f1458db40cf", func := "loop.example/pub-g01460/laws.FnSuffixSkips", spec := "fnSuffixSkips", apart := false }
def FnSuffixSkipsSaid : Prop := fnSuffixSkipsRow.holds Try.pinned (OpenSpec.ofChange fnSuffixSkipsSpec)

/-- ITS FALSE NEIGHBOUR: 'it returns false'. Refute it at one input. -/
def fnSuffixSkipsWrong : ChangeSpec := { name := "fnSuffixSkips", fn := fun _ => fun
  | [d] => { results := [.lit (.bool false)], args := [d] }
  | _ => none }
def FnSuffixSkipsWrongFalsely : Prop := fnSuffixSkipsRow.holds Try.pinned (OpenSpec.ofChange fnSuffixSkipsWrong)

/-- 'laws.FnNext': WHATEVER THE INPUT: true; the input reads as it did. -/
def fnNextSpec : ChangeSpec := { name := "fnNext", fn := fun _ => fun
  | [d1, d2] => { results := [.lit (.bool true)], args := [d1, d2] }
  | _ => none }
def fnNextRow : OpenClaim := { program := "ytpoedohdcccpiaa", sum := "cf7030a8d3919a2cf03d8b086b92998b7de7b66c4f3a0a18eca63f1458db40cf", func := "loop.example/pub-g01460/laws.FnNext", spec := "fnNext", apart := false }
def FnNextSaid : Prop := fnNextRow.holds Try.pinned (OpenSpec.ofChange fnNextSpec)

/-- ITS FALSE NEIGHBOUR: 'it returns false'. Refute it at one input. -/
def fnNextWrong : ChangeSpec := { name := "fnNext", fn := fun _ => fun
  | [d1, d2] => { results := [.lit (.bool false)], args := [d1, d2] }
  | _ => none }
def FnNextWrongFalsely : Prop := fnNextRow.holds Try.pinned (OpenSpec.ofChange fnNextWrong)

/-- 'laws.FnSingle': WHATEVER THE INPUT: true; the input reads as it did. -/
def fnSingleSpec : ChangeSpec := { name := "fnSingle", fn := fun _ => fun
  | [d1, d2, d3] => { results := [.lit (.bool true)], args := [d1, d2, d3] }
  | _ => none }
def fnSingleRow : OpenClaim := { program := "ytpoedohdcccpiaa", sum := "cf7030a8d3919a2cf03d8b086b92998b7de7b66c4f3a0a18eca63f1458db40cf", func := "loop.example/pub-g01460/laws.FnSingle", spec := "fnSingle", inPlace := ["internal/abi.NoEscape", "internal/bytealg.MakeNoZero"], apart := false }
def FnSingleSaid : Prop := fnSingleRow.holds Try.pinned (OpenSpec.ofChange fnSingleSpec)

/-- ITS FALSE NEIGHBOUR: 'it returns false'. Refute it at one input. -/
def fnSingleWrong : ChangeSpec := { name := "fnSingle", fn := fun _ => fun
  | [d1, d2, d3] => { results := [.lit (.bool false)], args := [d1, d2, d3] }
  | _ => none }
def FnSingleWrongFalsely : Prop := fnSingleRow.holds Try.pinned (OpenSpec.ofChange fnSingleWrong)

/-- 'laws.FnLookup': WHATEVER THE INPUT: true; the input reads as it did. -/
def fnLookupSpec : ChangeSpec := { name := "fnLookup", fn := fun _ => fun
  | [d1, d2, d3] => { results := [.lit (.bool true)], args := [d1, d2, d3] }
  | _ => none }
def fnLookupRow : OpenClaim := { program := "ytpoedohdcccpiaa", sum := "cf7030a8d3919a2cf03d8b086b92998b7de7b66c4f3a0a18eca63f1458db40cf", func := "loop.example/pub-g01460/laws.FnLookup", spec := "fnLookup", recurses := true, apart := false }
def FnLookupSaid : Prop := fnLookupRow.holds Try.pinned (OpenSpec.ofChange fnLookupSpec)

/-- ITS FALSE NEIGHBOUR: 'it returns false'. Refute it at one input. -/
def fnLookupWrong : ChangeSpec := { name := "fnLookup", fn := fun _ => fun
  | [d1, d2, d3] => { results := [.lit (.bool false)], args := [d1, d2, d3] }
  | _ => none }
def FnLookupWrongFalsely : Prop := fnLookupRow.holds Try.pinned (OpenSpec.ofChange fnLookupWrong)

/-- 'laws.FnGeneric': WHATEVER THE INPUT: true; the input reads as it did. -/
def fnGenericSpec : ChangeSpec := { name := "fnGeneric", fn := fun _ => fun
  | [d1, d2] => { results := [.lit (.bool true)], args := [d1, d2] }
  | _ => none }
def fnGenericRow : OpenClaim := { program := "ytpoedohdcccpiaa", sum := "cf7030a8d3919a2cf03d8b086b92998b7de7b66c4f3a0a18eca63f1458db40cf", func := "loop.example/pub-g01460/laws.FnGeneric", spec := "fnGeneric", unfollowed := true, recurses := true, apart := false }
def FnGenericSaid : Prop := fnGenericRow.holds Try.pinned (OpenSpec.ofChange fnGenericSpec)

/-- ITS FALSE NEIGHBOUR: 'it returns false'. Refute it at one input. -/
def fnGenericWrong : ChangeSpec := { name := "fnGeneric", fn := fun _ => fun
  | [d1, d2] => { results := [.lit (.bool false)], args := [d1, d2] }
  | _ => none }
def FnGenericWrongFalsely : Prop := fnGenericRow.holds Try.pinned (OpenSpec.ofChange fnGenericWrong)

/-- 'laws.FnTimes': WHATEVER THE INPUT: true; the input reads as it did. -/
def fnTimesSpec : ChangeSpec := { name := "fnTimes", fn := fun _ => fun
  | [d1, d2] => { results := [.lit (.bool true)], args := [d1, d2] }
  | _ => none }
def fnTimesRow : OpenClaim := { program := "ytpoedohdcccpiaa", sum := "cf7030a8d3919a2cf03d8b086b92998b7de7b66c4f3a0a18eca63f1458db40cf", func := "loop.example/pub-g01460/laws.FnTimes", spec := "fnTimes", unfollowed := true, recurses := true, apart := false }
def FnTimesSaid : Prop := fnTimesRow.holds Try.pinned (OpenSpec.ofChange fnTimesSpec)

/-- ITS FALSE NEIGHBOUR: 'it returns false'. Refute it at one input. -/
def fnTimesWrong : ChangeSpec := { name := "fnTimes", fn := fun _ => fun
  | [d1, d2] => { results := [.lit (.bool false)], args := [d1, d2] }
  | _ => none }
def FnTimesWrongFalsely : Prop := fnTimesRow.holds Try.pinned (OpenSpec.ofChange fnTimesWrong)

/-- 'laws.FnOdd': WHATEVER THE INPUT: true; the input reads as it did. -/
def fnOddSpec : ChangeSpec := { name := "fnOdd", fn := fun _ => fun
  | [d1, d2] => { results := [.lit (.bool true)], args := [d1, d2] }
  | _ => none }
def fnOddRow : OpenClaim := { program := "ytpoedohdcccpiaa", sum := "cf7030a8d3919a2cf03d8b086b92998b7de7b66c4f3a0a18eca63f1458db40cf", func := "loop.example/pub-g01460/laws.FnOdd", spec := "fnOdd", unfollowed := true, recurses := true, apart := false }
def FnOddSaid : Prop := fnOddRow.holds Try.pinned (OpenSpec.ofChange fnOddSpec)

/-- ITS FALSE NEIGHBOUR: 'it returns false'. Refute it at one input. -/
def fnOddWrong : ChangeSpec := { name := "fnOdd", fn := fun _ => fun
  | [d1, d2] => { results := [.lit (.bool false)], args := [d1, d2] }
  | _ => none }
def FnOddWrongFalsely : Prop := fnOddRow.holds Try.pinned (OpenSpec.ofChange fnOddWrong)

/-- 'laws.FnReplace': WHATEVER THE INPUT: true; the input reads as it did. -/
def fnReplaceSpec : ChangeSpec := { name := "fnReplace", fn := fun _ => fun
  | [d1, d2] => { results := [.lit (.bool true)], args := [d1, d2] }
  | _ => none }
def fnReplaceRow : OpenClaim := { program := "ytpoedohdcccpiaa", sum := "cf7030a8d3919a2cf03d8b086b92998b7de7b66c4f3a0a18eca63f1458db40cf", func := "loop.example/pub-g01460/laws.FnReplace", spec := "fnReplace", unfollowed := true, recurses := true, apart := false }
def FnReplaceSaid : Prop := fnReplaceRow.holds Try.pinned (OpenSpec.ofChange fnReplaceSpec)

/-- ITS FALSE NEIGHBOUR: 'it returns false'. Refute it at one input. -/
def fnReplaceWrong : ChangeSpec := { name := "fnReplace", fn := fun _ => fun
  | [d1, d2] => { results := [.lit (.bool false)], args := [d1, d2] }
  | _ => none }
def FnReplaceWrongFalsely : Prop := fnReplaceRow.holds Try.pinned (OpenSpec.ofChange fnReplaceWrong)

/-- 'laws.FnWrite': WHATEVER THE INPUT: true; the input reads as it did. -/
def fnWriteSpec : ChangeSpec := { name := "fnWrite", fn := fun _ => fun
  | [d1, d2] => { results := [.lit (.bool true)], args := [d1, d2] }
  | _ => none }
def fnWriteRow : OpenClaim := { program := "ytpoedohdcccpiaa", sum := "cf7030a8d3919a2cf03d8b086b92998b7de7b66c4f3a0a18eca63f1458db40cf", func := "loop.example/pub-g01460/laws.FnWrite", spec := "fnWrite", unfollowed := true, recurses := true, apart := false }
def FnWriteSaid : Prop := fnWriteRow.holds Try.pinned (OpenSpec.ofChange fnWriteSpec)

/-- ITS FALSE NEIGHBOUR: 'it returns false'. Refute it at one input. -/
def fnWriteWrong : ChangeSpec := { name := "fnWrite", fn := fun _ => fun
  | [d1, d2] => { results := [.lit (.bool false)], args := [d1, d2] }
  | _ => none }
def FnWriteWrongFalsely : Prop := fnWriteRow.holds Try.pinned (OpenSpec.ofChange fnWriteWrong)

/-- 'laws.FnWriteInto': WHATEVER THE INPUT: true; the input reads as it did. -/
def fnWriteIntoSpec : ChangeSpec := { name := "fnWriteInto", fn := fun _ => fun
  | [d1, d2, d3] => { results := [.lit (.bool true)], args := [d1, d2, d3] }
  | _ => none }
def fnWriteIntoRow : OpenClaim := { program := "ytpoedohdcccpiaa", sum := "cf7030a8d3919a2cf03d8b086b92998b7de7b66c4f3a0a18eca63f1458db40cf", func := "loop.example/pub-g01460/laws.FnWriteInto", spec := "fnWriteInto", unfollowed := true, recurses := true, apart := false }
def FnWriteIntoSaid : Prop := fnWriteIntoRow.holds Try.pinned (OpenSpec.ofChange fnWriteIntoSpec)

/-- ITS FALSE NEIGHBOUR: 'it returns false'. Refute it at one input. -/
def fnWriteIntoWrong : ChangeSpec := { name := "fnWriteInto", fn := fun _ => fun
  | [d1, d2, d3] => { results := [.lit (.bool false)], args := [d1, d2, d3] }
  | _ => none }
def FnWriteIntoWrongFalsely : Prop := fnWriteIntoRow.holds Try.pinned (OpenSpec.ofChange fnWriteIntoWrong)

/- THE SECOND FORM. 'bulk': how many values and letters a reading holds, each counted each time it is reached (what is shared counts as often as it is met; a slice's spare places count too). A statement '..UptoSaid' is the law's where the arguments, and the package variables that the reading takes, are together of bulk at most 1048576: NARROWER than '..Said'. Prove '..Said' where nothing that the law and all that it calls make is longer than what came in: it says more and counts as full. Else prove '..UptoSaid'. A law counts once. -/
mutual
def uptoBulk {H : Type} : DataW H → Nat
  | .lit (.string bytes) => bytes.length + 1
  | .lit _ => 1
  | .nil => 1
  | .ptr d => uptoBulk d + 1
  | .slice elems spare => uptoBulkAll elems + uptoBulkAll spare + 1
  | .agg parts => uptoBulkAll parts + 1
  | .iface _ d => uptoBulk d + 1
  | .map entries => uptoBulkEntries entries + 1
  | .held _ => 1
def uptoBulkAll {H : Type} : List (DataW H) → Nat
  | [] => 0
  | d :: r => uptoBulk d + uptoBulkAll r
def uptoBulkEntries {H : Type} : List (Lit × DataW H) → Nat
  | [] => 0
  | x :: r => uptoBulkEntry x + uptoBulkEntries r
def uptoBulkEntry {H : Type} : Lit × DataW H → Nat
  | (.string bytes, d) => bytes.length + uptoBulk d + 1
  | (_, d) => uptoBulk d + 1
 end
def uptoSmall : (H : Type) → List (DataW H) → Bool := fun _ ds => decide (uptoBulkAll ds ≤ 1048576)
def OpenSpec.upto (s : _root_.Go.ChangeSpec) : _root_.Go.OpenSpec := { _root_.Go.OpenSpec.ofChange s with cond := some uptoSmall }

/-- 'laws.FnCommonSuffix', WHERE WHAT IT READS IS OF BULK AT MOST 1048576: true; the input reads as it did. -/
def fnCommonSuffixUptoRow : OpenClaim := { program := "ytpoedohdcccpiaa", sum := "cf7030a8d3919a2cf03d8b086b92998b7de7b66c4f3a0a18eca63f1458db40cf", func := "loop.example/pub-g01460/laws.FnCommonSuffix", spec := "fnCommonSuffix", apart := false, narrowed := true }
def FnCommonSuffixUptoSaid : Prop := fnCommonSuffixUptoRow.holds Try.pinned (OpenSpec.upto fnCommonSuffixSpec)

/-- 'laws.FnSuffixSkips', WHERE WHAT IT READS IS OF BULK AT MOST 1048576: true; the input reads as it did. -/
def fnSuffixSkipsUptoRow : OpenClaim := { program := "ytpoedohdcccpiaa", sum := "cf7030a8d3919a2cf03d8b086b92998b7de7b66c4f3a0a18eca63f1458db40cf", func := "loop.example/pub-g01460/laws.FnSuffixSkips", spec := "fnSuffixSkips", apart := false, narrowed := true }
def FnSuffixSkipsUptoSaid : Prop := fnSuffixSkipsUptoRow.holds Try.pinned (OpenSpec.upto fnSuffixSkipsSpec)

/-- 'laws.FnNext', WHERE WHAT IT READS IS OF BULK AT MOST 1048576: true; the input reads as it did. -/
def fnNextUptoRow : OpenClaim := { program := "ytpoedohdcccpiaa", sum := "cf7030a8d3919a2cf03d8b086b92998b7de7b66c4f3a0a18eca63f1458db40cf", func := "loop.example/pub-g01460/laws.FnNext", spec := "fnNext", apart := false, narrowed := true }
def FnNextUptoSaid : Prop := fnNextUptoRow.holds Try.pinned (OpenSpec.upto fnNextSpec)

/-- 'laws.FnSingle', WHERE WHAT IT READS IS OF BULK AT MOST 1048576: true; the input reads as it did. -/
def fnSingleUptoRow : OpenClaim := { program := "ytpoedohdcccpiaa", sum := "cf7030a8d3919a2cf03d8b086b92998b7de7b66c4f3a0a18eca63f1458db40cf", func := "loop.example/pub-g01460/laws.FnSingle", spec := "fnSingle", inPlace := ["internal/abi.NoEscape", "internal/bytealg.MakeNoZero"], apart := false, narrowed := true }
def FnSingleUptoSaid : Prop := fnSingleUptoRow.holds Try.pinned (OpenSpec.upto fnSingleSpec)

/-- 'laws.FnLookup', WHERE WHAT IT READS IS OF BULK AT MOST 1048576: true; the input reads as it did. -/
def fnLookupUptoRow : OpenClaim := { program := "ytpoedohdcccpiaa", sum := "cf7030a8d3919a2cf03d8b086b92998b7de7b66c4f3a0a18eca63f1458db40cf", func := "loop.example/pub-g01460/laws.FnLookup", spec := "fnLookup", recurses := true, apart := false, narrowed := true }
def FnLookupUptoSaid : Prop := fnLookupUptoRow.holds Try.pinned (OpenSpec.upto fnLookupSpec)

/-- 'laws.FnGeneric', WHERE WHAT IT READS IS OF BULK AT MOST 1048576: true; the input reads as it did. -/
def fnGenericUptoRow : OpenClaim := { program := "ytpoedohdcccpiaa", sum := "cf7030a8d3919a2cf03d8b086b92998b7de7b66c4f3a0a18eca63f1458db40cf", func := "loop.example/pub-g01460/laws.FnGeneric", spec := "fnGeneric", unfollowed := true, recurses := true, apart := false, narrowed := true }
def FnGenericUptoSaid : Prop := fnGenericUptoRow.holds Try.pinned (OpenSpec.upto fnGenericSpec)

/-- 'laws.FnTimes', WHERE WHAT IT READS IS OF BULK AT MOST 1048576: true; the input reads as it did. -/
def fnTimesUptoRow : OpenClaim := { program := "ytpoedohdcccpiaa", sum := "cf7030a8d3919a2cf03d8b086b92998b7de7b66c4f3a0a18eca63f1458db40cf", func := "loop.example/pub-g01460/laws.FnTimes", spec := "fnTimes", unfollowed := true, recurses := true, apart := false, narrowed := true }
def FnTimesUptoSaid : Prop := fnTimesUptoRow.holds Try.pinned (OpenSpec.upto fnTimesSpec)

/-- 'laws.FnOdd', WHERE WHAT IT READS IS OF BULK AT MOST 1048576: true; the input reads as it did. -/
def fnOddUptoRow : OpenClaim := { program := "ytpoedohdcccpiaa", sum := "cf7030a8d3919a2cf03d8b086b92998b7de7b66c4f3a0a18eca63f1458db40cf", func := "loop.example/pub-g01460/laws.FnOdd", spec := "fnOdd", unfollowed := true, recurses := true, apart := false, narrowed := true }
def FnOddUptoSaid : Prop := fnOddUptoRow.holds Try.pinned (OpenSpec.upto fnOddSpec)

/-- 'laws.FnReplace', WHERE WHAT IT READS IS OF BULK AT MOST 1048576: true; the input reads as it did. -/
def fnReplaceUptoRow : OpenClaim := { program := "ytpoedohdcccpiaa", sum := "cf7030a8d3919a2cf03d8b086b92998b7de7b66c4f3a0a18eca63f1458db40cf", func := "loop.example/pub-g01460/laws.FnReplace", spec := "fnReplace", unfollowed := true, recurses := true, apart := false, narrowed := true }
def FnReplaceUptoSaid : Prop := fnReplaceUptoRow.holds Try.pinned (OpenSpec.upto fnReplaceSpec)

/-- 'laws.FnWrite', WHERE WHAT IT READS IS OF BULK AT MOST 1048576: true; the input reads as it did. -/
def fnWriteUptoRow : OpenClaim := { program := "ytpoedohdcccpiaa", sum := "cf7030a8d3919a2cf03d8b086b92998b7de7b66c4f3a0a18eca63f1458db40cf", func := "loop.example/pub-g01460/laws.FnWrite", spec := "fnWrite", unfollowed := true, recurses := true, apart := false, narrowed := true }
def FnWriteUptoSaid : Prop := fnWriteUptoRow.holds Try.pinned (OpenSpec.upto fnWriteSpec)

/-- 'laws.FnWriteInto', WHERE WHAT IT READS IS OF BULK AT MOST 1048576: true; the input reads as it did. -/
def fnWriteIntoUptoRow : OpenClaim := { program := "ytpoedohdcccpiaa", sum := "cf7030a8d3919a2cf03d8b086b92998b7de7b66c4f3a0a18eca63f1458db40cf", func := "loop.example/pub-g01460/laws.FnWriteInto", spec := "fnWriteInto", unfollowed := true, recurses := true, apart := false, narrowed := true }
def FnWriteIntoUptoSaid : Prop := fnWriteIntoUptoRow.holds Try.pinned (OpenSpec.upto fnWriteIntoSpec)

end Rows
end Go.Proofs.Ytpoedohdcccpiaa
