/-
  No cell of these rows narrows 'for every input' (looked for: loops, veiled, ifaces, maps, wideKeys, modest, calm, conditions, laid).
  DERIVED. THE GIVEN ROWS OF THIS SEAT. 15 by the template 'for every input the law returns true; each argument reads behind the call as it read before'; 0 by the template 'total and deterministic' (their statements: YteajdljmbjdbkaaTotals.lean).
  GIVEN WITH THE SEED: the statements are not yours to turn. If you find one false, say at which input.
  Laid BY PROGRAM, IN A SANDBOX (cutbox-rows.mjs): the forced cells as the released guide's own fill.sh prints them over the translation a1ddd0b7edf31e1c… (all of the seat's roots in one cut). By AI agents, Wed Nov 11 2026. No macro, syntax, notation, axiom, sorry.
-/
import Derived.Test.YteajdljmbjdbkaaChecked
import GoSem.Claim
import GoSem.ClaimJoined
import GoSem.ClaimMapViews
import Derived.JoinedTies
import Derived.KernelRfl
namespace Go.Proofs.Yteajdljmbjdbkaa
/- THE CELL 'sum', in the pinned program and in every row, IS THE sha256 OF THE DUMP (.gsa) THAT YteajdljmbjdbkaaProg.lean LOADS. Nothing in Lean hashes anything: it is a label: what it is worth is what the hold of that sum in a sandbox is worth. -/
noncomputable def Try.pinned : Pinned := { name := "yteajdljmbjdbkaa", sum := "a1ddd0b7edf31e1c632d02d3057daa5480f12c457f87c189b9562e03427a20dc", checked := Try.checked }
namespace Rows
def none {H : Type} : Left H := { results := [], args := [] }

/-- 'laws.FnTimes': WHATEVER THE INPUT: true; the input reads as it did. -/
def fnTimesSpec : ChangeSpec := { name := "fnTimes", fn := fun _ => fun
  | [d1, d2] => { results := [.lit (.bool true)], args := [d1, d2] }
  | _ => none }
def fnTimesRow : OpenClaim := { program := "yteajdljmbjdbkaa", sum := "a1ddd0b7edf31e1c632d02d3057daa5480f12c457f87c189b9562e03427a20dc", func := "loop.example/pub-g01460/laws.FnTimes", spec := "fnTimes", unfollowed := true, recurses := true, apart := false }
def FnTimesSaid : Prop := fnTimesRow.holds Try.pinned (OpenSpec.ofChange fnTimesSpec)

/-- ITS FALSE NEIGHBOUR: 'it returns false'. Refute it at one input. -/
def fnTimesWrong : ChangeSpec := { name := "fnTimes", fn := fun _ => fun
  | [d1, d2] => { results := [.lit (.bool false)], args := [d1, d2] }
  | _ => none }
def FnTimesWrongFalsely : Prop := fnTimesRow.holds Try.pinned (OpenSpec.ofChange fnTimesWrong)

/-- 'laws.FnSuffixSkips': WHATEVER THE INPUT: true; the input reads as it did. -/
def fnSuffixSkipsSpec : ChangeSpec := { name := "fnSuffixSkips", fn := fun _ => fun
  | [d] => { results := [.lit (.bool true)], args := [d] }
  | _ => none }
def fnSuffixSkipsRow : OpenClaim := { program := "yteajdljmbjdbkaa", sum := "a1ddd0b7edf31e1c632d02d3057daa5480f12c457f87c189b9562e03427a20dc", func := "loop.example/pub-g01460/laws.FnSuffixSkips", spec := "fnSuffixSkips", apart := false }
def FnSuffixSkipsSaid : Prop := fnSuffixSkipsRow.holds Try.pinned (OpenSpec.ofChange fnSuffixSkipsSpec)

/-- ITS FALSE NEIGHBOUR: 'it returns false'. Refute it at one input. -/
def fnSuffixSkipsWrong : ChangeSpec := { name := "fnSuffixSkips", fn := fun _ => fun
  | [d] => { results := [.lit (.bool false)], args := [d] }
  | _ => none }
def FnSuffixSkipsWrongFalsely : Prop := fnSuffixSkipsRow.holds Try.pinned (OpenSpec.ofChange fnSuffixSkipsWrong)

/-- 'laws.FnWrite': WHATEVER THE INPUT: true; the input reads as it did. -/
def fnWriteSpec : ChangeSpec := { name := "fnWrite", fn := fun _ => fun
  | [d1, d2] => { results := [.lit (.bool true)], args := [d1, d2] }
  | _ => none }
def fnWriteRow : OpenClaim := { program := "yteajdljmbjdbkaa", sum := "a1ddd0b7edf31e1c632d02d3057daa5480f12c457f87c189b9562e03427a20dc", func := "loop.example/pub-g01460/laws.FnWrite", spec := "fnWrite", unfollowed := true, recurses := true, apart := false }
def FnWriteSaid : Prop := fnWriteRow.holds Try.pinned (OpenSpec.ofChange fnWriteSpec)

/-- ITS FALSE NEIGHBOUR: 'it returns false'. Refute it at one input. -/
def fnWriteWrong : ChangeSpec := { name := "fnWrite", fn := fun _ => fun
  | [d1, d2] => { results := [.lit (.bool false)], args := [d1, d2] }
  | _ => none }
def FnWriteWrongFalsely : Prop := fnWriteRow.holds Try.pinned (OpenSpec.ofChange fnWriteWrong)

/-- 'laws.FnWriteInto': WHATEVER THE INPUT: true; the input reads as it did. -/
def fnWriteIntoSpec : ChangeSpec := { name := "fnWriteInto", fn := fun _ => fun
  | [d1, d2, d3] => { results := [.lit (.bool true)], args := [d1, d2, d3] }
  | _ => none }
def fnWriteIntoRow : OpenClaim := { program := "yteajdljmbjdbkaa", sum := "a1ddd0b7edf31e1c632d02d3057daa5480f12c457f87c189b9562e03427a20dc", func := "loop.example/pub-g01460/laws.FnWriteInto", spec := "fnWriteInto", unfollowed := true, recurses := true, apart := false }
def FnWriteIntoSaid : Prop := fnWriteIntoRow.holds Try.pinned (OpenSpec.ofChange fnWriteIntoSpec)

/-- ITS FALSE NEIGHBOUR: 'it returns false'. Refute it at one input. -/
def fnWriteIntoWrong : ChangeSpec := { name := "fnWriteInto", fn := fun _ => fun
  | [d1, d2, d3] => { results := [.lit (.bool false)], args := [d1, d2, d3] }
  | _ => none }
def FnWriteIntoWrongFalsely : Prop := fnWriteIntoRow.holds Try.pinned (OpenSpec.ofChange fnWriteIntoWrong)

/-- 'laws.FnSingle': WHATEVER THE INPUT: true; the input reads as it did. -/
def fnSingleSpec : ChangeSpec := { name := "fnSingle", fn := fun _ => fun
  | [d1, d2, d3] => { results := [.lit (.bool true)], args := [d1, d2, d3] }
  | _ => none }
def fnSingleRow : OpenClaim := { program := "yteajdljmbjdbkaa", sum := "a1ddd0b7edf31e1c632d02d3057daa5480f12c457f87c189b9562e03427a20dc", func := "loop.example/pub-g01460/laws.FnSingle", spec := "fnSingle", inPlace := ["internal/abi.NoEscape", "internal/bytealg.MakeNoZero"], apart := false }
def FnSingleSaid : Prop := fnSingleRow.holds Try.pinned (OpenSpec.ofChange fnSingleSpec)

/-- ITS FALSE NEIGHBOUR: 'it returns false'. Refute it at one input. -/
def fnSingleWrong : ChangeSpec := { name := "fnSingle", fn := fun _ => fun
  | [d1, d2, d3] => { results := [.lit (.bool false)], args := [d1, d2, d3] }
  | _ => none }
def FnSingleWrongFalsely : Prop := fnSingleRow.holds Try.pinned (OpenSpec.ofChange fnSingleWrong)

/-- 'laws.FnGeneric': WHATEVER THE INPUT: true; the input reads as it did. -/
def fnGenericSpec : ChangeSpec := { name := "fnGeneric", fn := fun _ => fun
  | [d1, d2] => { results := [.lit (.bool true)], args := [d1, d2] }
  | _ => none }
def fnGenericRow : OpenClaim := { program := "yteajdljmbjdbkaa", sum := "a1ddd0b7edf31e1c632d02d3057daa5480f12c457f87c189b9562e03427a20dc", func := "loop.example/pub-g01460/laws.FnGeneric", spec := "fnGeneric", unfollowed := true, recurses := true, apart := false }
def FnGenericSaid : Prop := fnGenericRow.holds Try.pinned (OpenSpec.ofChange fnGenericSpec)

/-- ITS FALSE NEIGHBOUR: 'it returns false'. Refute it at one input. -/
def fnGenericWrong : ChangeSpec := { name := "fnGeneric", fn := fun _ => fun
  | [d1, d2] => { results := [.lit (.bool false)], args := [d1, d2] }
  | _ => none }
def FnGenericWrongFalsely : Prop := fnGenericRow.holds Try.pinned (OpenSpec.ofChange fnGenericWrong)

/-- 'laws.FnBehind': WHATEVER THE INPUT: true; the input reads as it did. -/
def fnBehindSpec : ChangeSpec := { name := "fnBehind", fn := fun _ => fun
  | [d1, d2, d3, d4, d5] => { results := [.lit (.bool true)], args := [d1, d2, d3, d4, d5] }
  | _ => none }
def fnBehindRow : OpenClaim := { program := "yteajdljmbjdbkaa", sum := "a1ddd0b7edf31e1c632d02d3057daa5480f12c457f87c189b9562e03427a20dc", func := "loop.example/pub-g01460/laws.FnBehind", spec := "fnBehind", unfollowed := true, recurses := true, apart := false }
def FnBehindSaid : Prop := fnBehindRow.holds Try.pinned (OpenSpec.ofChange fnBehindSpec)

/-- ITS FALSE NEIGHBOUR: 'it returns false'. Refute it at one input. -/
def fnBehindWrong : ChangeSpec := { name := "fnBehind", fn := fun _ => fun
  | [d1, d2, d3, d4, d5] => { results := [.lit (.bool false)], args := [d1, d2, d3, d4, d5] }
  | _ => none }
def FnBehindWrongFalsely : Prop := fnBehindRow.holds Try.pinned (OpenSpec.ofChange fnBehindWrong)

/-- 'laws.FnByteTable': WHATEVER THE INPUT: true; the input reads as it did. -/
def fnByteTableSpec : ChangeSpec := { name := "fnByteTable", fn := fun _ => fun
  | [d1, d2, d3] => { results := [.lit (.bool true)], args := [d1, d2, d3] }
  | _ => none }
def fnByteTableRow : OpenClaim := { program := "yteajdljmbjdbkaa", sum := "a1ddd0b7edf31e1c632d02d3057daa5480f12c457f87c189b9562e03427a20dc", func := "loop.example/pub-g01460/laws.FnByteTable", spec := "fnByteTable", unfollowed := true, recurses := true, apart := false }
def FnByteTableSaid : Prop := fnByteTableRow.holds Try.pinned (OpenSpec.ofChange fnByteTableSpec)

/-- ITS FALSE NEIGHBOUR: 'it returns false'. Refute it at one input. -/
def fnByteTableWrong : ChangeSpec := { name := "fnByteTable", fn := fun _ => fun
  | [d1, d2, d3] => { results := [.lit (.bool false)], args := [d1, d2, d3] }
  | _ => none }
def FnByteTableWrongFalsely : Prop := fnByteTableRow.holds Try.pinned (OpenSpec.ofChange fnByteTableWrong)

/-- 'laws.FnCut': WHATEVER THE INPUT: true; the input reads as it did. -/
def fnCutSpec : ChangeSpec := { name := "fnCut", fn := fun _ => fun
  | [d1, d2, d3, d4] => { results := [.lit (.bool true)], args := [d1, d2, d3, d4] }
  | _ => none }
def fnCutRow : OpenClaim := { program := "yteajdljmbjdbkaa", sum := "a1ddd0b7edf31e1c632d02d3057daa5480f12c457f87c189b9562e03427a20dc", func := "loop.example/pub-g01460/laws.FnCut", spec := "fnCut", unfollowed := true, recurses := true, apart := false }
def FnCutSaid : Prop := fnCutRow.holds Try.pinned (OpenSpec.ofChange fnCutSpec)

/-- ITS FALSE NEIGHBOUR: 'it returns false'. Refute it at one input. -/
def fnCutWrong : ChangeSpec := { name := "fnCut", fn := fun _ => fun
  | [d1, d2, d3, d4] => { results := [.lit (.bool false)], args := [d1, d2, d3, d4] }
  | _ => none }
def FnCutWrongFalsely : Prop := fnCutRow.holds Try.pinned (OpenSpec.ofChange fnCutWrong)

/-- 'laws.FnDropped': WHATEVER THE INPUT: true; the input reads as it did. -/
def fnDroppedSpec : ChangeSpec := { name := "fnDropped", fn := fun _ => fun
  | [d1, d2] => { results := [.lit (.bool true)], args := [d1, d2] }
  | _ => none }
def fnDroppedRow : OpenClaim := { program := "yteajdljmbjdbkaa", sum := "a1ddd0b7edf31e1c632d02d3057daa5480f12c457f87c189b9562e03427a20dc", func := "loop.example/pub-g01460/laws.FnDropped", spec := "fnDropped", unfollowed := true, recurses := true, apart := false }
def FnDroppedSaid : Prop := fnDroppedRow.holds Try.pinned (OpenSpec.ofChange fnDroppedSpec)

/-- ITS FALSE NEIGHBOUR: 'it returns false'. Refute it at one input. -/
def fnDroppedWrong : ChangeSpec := { name := "fnDropped", fn := fun _ => fun
  | [d1, d2] => { results := [.lit (.bool false)], args := [d1, d2] }
  | _ => none }
def FnDroppedWrongFalsely : Prop := fnDroppedRow.holds Try.pinned (OpenSpec.ofChange fnDroppedWrong)

/-- 'laws.FnEscaped': WHATEVER THE INPUT: true; the input reads as it did. -/
def fnEscapedSpec : ChangeSpec := { name := "fnEscaped", fn := fun _ => fun
  | [d1, d2, d3, d4] => { results := [.lit (.bool true)], args := [d1, d2, d3, d4] }
  | _ => none }
def fnEscapedRow : OpenClaim := { program := "yteajdljmbjdbkaa", sum := "a1ddd0b7edf31e1c632d02d3057daa5480f12c457f87c189b9562e03427a20dc", func := "loop.example/pub-g01460/laws.FnEscaped", spec := "fnEscaped", unfollowed := true, recurses := true, apart := false }
def FnEscapedSaid : Prop := fnEscapedRow.holds Try.pinned (OpenSpec.ofChange fnEscapedSpec)

/-- ITS FALSE NEIGHBOUR: 'it returns false'. Refute it at one input. -/
def fnEscapedWrong : ChangeSpec := { name := "fnEscaped", fn := fun _ => fun
  | [d1, d2, d3, d4] => { results := [.lit (.bool false)], args := [d1, d2, d3, d4] }
  | _ => none }
def FnEscapedWrongFalsely : Prop := fnEscapedRow.holds Try.pinned (OpenSpec.ofChange fnEscapedWrong)

/-- 'laws.FnKept': WHATEVER THE INPUT: true; the input reads as it did. -/
def fnKeptSpec : ChangeSpec := { name := "fnKept", fn := fun _ => fun
  | [d1, d2] => { results := [.lit (.bool true)], args := [d1, d2] }
  | _ => none }
def fnKeptRow : OpenClaim := { program := "yteajdljmbjdbkaa", sum := "a1ddd0b7edf31e1c632d02d3057daa5480f12c457f87c189b9562e03427a20dc", func := "loop.example/pub-g01460/laws.FnKept", spec := "fnKept", unfollowed := true, recurses := true, apart := false }
def FnKeptSaid : Prop := fnKeptRow.holds Try.pinned (OpenSpec.ofChange fnKeptSpec)

/-- ITS FALSE NEIGHBOUR: 'it returns false'. Refute it at one input. -/
def fnKeptWrong : ChangeSpec := { name := "fnKept", fn := fun _ => fun
  | [d1, d2] => { results := [.lit (.bool false)], args := [d1, d2] }
  | _ => none }
def FnKeptWrongFalsely : Prop := fnKeptRow.holds Try.pinned (OpenSpec.ofChange fnKeptWrong)

/-- 'laws.FnLongest': WHATEVER THE INPUT: true; the input reads as it did. -/
def fnLongestSpec : ChangeSpec := { name := "fnLongest", fn := fun _ => fun
  | [d1, d2] => { results := [.lit (.bool true)], args := [d1, d2] }
  | _ => none }
def fnLongestRow : OpenClaim := { program := "yteajdljmbjdbkaa", sum := "a1ddd0b7edf31e1c632d02d3057daa5480f12c457f87c189b9562e03427a20dc", func := "loop.example/pub-g01460/laws.FnLongest", spec := "fnLongest", unfollowed := true, recurses := true, apart := false }
def FnLongestSaid : Prop := fnLongestRow.holds Try.pinned (OpenSpec.ofChange fnLongestSpec)

/-- ITS FALSE NEIGHBOUR: 'it returns false'. Refute it at one input. -/
def fnLongestWrong : ChangeSpec := { name := "fnLongest", fn := fun _ => fun
  | [d1, d2] => { results := [.lit (.bool false)], args := [d1, d2] }
  | _ => none }
def FnLongestWrongFalsely : Prop := fnLongestRow.holds Try.pinned (OpenSpec.ofChange fnLongestWrong)

/-- 'laws.FnOdd': WHATEVER THE INPUT: true; the input reads as it did. -/
def fnOddSpec : ChangeSpec := { name := "fnOdd", fn := fun _ => fun
  | [d1, d2] => { results := [.lit (.bool true)], args := [d1, d2] }
  | _ => none }
def fnOddRow : OpenClaim := { program := "yteajdljmbjdbkaa", sum := "a1ddd0b7edf31e1c632d02d3057daa5480f12c457f87c189b9562e03427a20dc", func := "loop.example/pub-g01460/laws.FnOdd", spec := "fnOdd", unfollowed := true, recurses := true, apart := false }
def FnOddSaid : Prop := fnOddRow.holds Try.pinned (OpenSpec.ofChange fnOddSpec)

/-- ITS FALSE NEIGHBOUR: 'it returns false'. Refute it at one input. -/
def fnOddWrong : ChangeSpec := { name := "fnOdd", fn := fun _ => fun
  | [d1, d2] => { results := [.lit (.bool false)], args := [d1, d2] }
  | _ => none }
def FnOddWrongFalsely : Prop := fnOddRow.holds Try.pinned (OpenSpec.ofChange fnOddWrong)

/-- 'laws.FnReplace': WHATEVER THE INPUT: true; the input reads as it did. -/
def fnReplaceSpec : ChangeSpec := { name := "fnReplace", fn := fun _ => fun
  | [d1, d2] => { results := [.lit (.bool true)], args := [d1, d2] }
  | _ => none }
def fnReplaceRow : OpenClaim := { program := "yteajdljmbjdbkaa", sum := "a1ddd0b7edf31e1c632d02d3057daa5480f12c457f87c189b9562e03427a20dc", func := "loop.example/pub-g01460/laws.FnReplace", spec := "fnReplace", unfollowed := true, recurses := true, apart := false }
def FnReplaceSaid : Prop := fnReplaceRow.holds Try.pinned (OpenSpec.ofChange fnReplaceSpec)

/-- ITS FALSE NEIGHBOUR: 'it returns false'. Refute it at one input. -/
def fnReplaceWrong : ChangeSpec := { name := "fnReplace", fn := fun _ => fun
  | [d1, d2] => { results := [.lit (.bool false)], args := [d1, d2] }
  | _ => none }
def FnReplaceWrongFalsely : Prop := fnReplaceRow.holds Try.pinned (OpenSpec.ofChange fnReplaceWrong)

/- THE SECOND FORM. 'bulk': how many values and letters a reading holds, each counted each time it is reached (what is shared counts as often as it is met; a slice's spare places count too). A statement '..UptoSaid' is the law's where the arguments, and the package variables that the reading takes, are together of bulk at most 1048576: NARROWER than '..Said'. Prove '..Said' where nothing that the law and all that it calls make is longer than what came in: it says more and counts as full. Else prove '..UptoSaid'. A law counts once. -/
mutual
def uptoBulk {H : Type} : DataW H → Nat
  | .lit (.string bytes) => bytes.length + 1
  | .lit _ => 1
  | .nil => 1
  | .ptr d => uptoBulk d + 1
  | .slice elems spare => uptoBulkAll elems + uptoBulkAll spare + 1
  | .agg parts => uptoBulkAll parts + 1
  | .iface _ d => uptoBulk d + 1
  | .map entries => uptoBulkEntries entries + 1
  | .held _ => 1
def uptoBulkAll {H : Type} : List (DataW H) → Nat
  | [] => 0
  | d :: r => uptoBulk d + uptoBulkAll r
def uptoBulkEntries {H : Type} : List (Lit × DataW H) → Nat
  | [] => 0
  | x :: r => uptoBulkEntry x + uptoBulkEntries r
def uptoBulkEntry {H : Type} : Lit × DataW H → Nat
  | (.string bytes, d) => bytes.length + uptoBulk d + 1
  | (_, d) => uptoBulk d + 1
 end
def uptoSmall : (H : Type) → List (DataW H) → Bool := fun _ ds => decide (uptoBulkAll ds ≤ 1048576)
def OpenSpec.upto (s : _root_.Go.ChangeSpec) : _root_.Go.OpenSpec := { _root_.Go.OpenSpec.ofChange s with cond := some uptoSmall }

/-- 'laws.FnTimes', WHERE WHAT IT READS IS OF BULK AT MOST 1048576: true; the input reads as it did. -/
def fnTimesUptoRow : OpenClaim := { program := "yteajdljmbjdbkaa", sum := "a1ddd0b7edf31e1c632d02d3057daa5480f12c457f87c189b9562e03427a20dc", func := "loop.example/pub-g01460/laws.FnTimes", spec := "fnTimes", unfollowed := true, recurses := true, apart := false, narrowed := true }
def FnTimesUptoSaid : Prop := fnTimesUptoRow.holds Try.pinned (OpenSpec.upto fnTimesSpec)

/-- 'laws.FnSuffixSkips', WHERE WHAT IT READS IS OF BULK AT MOST 1048576: true; the input reads as it did. -/
def fnSuffixSkipsUptoRow : OpenClaim := { program := "yteajdljmbjdbkaa", sum := "a1ddd0b7edf31e1c632d02d3057daa5480f12c457f87c189b9562e03427a20dc", func := "loop.example/pub-g01460/laws.FnSuffixSkips", spec := "fnSuffixSkips", apart := false, narrowed := true }
def FnSuffixSkipsUptoSaid : Prop := fnSuffixSkipsUptoRow.holds Try.pinned (OpenSpec.upto fnSuffixSkipsSpec)

/-- 'laws.FnWrite', WHERE WHAT IT READS IS OF BULK AT MOST 1048576: true; the input reads as it did. -/
def fnWriteUptoRow : OpenClaim := { program := "yteajdljmbjdbkaa", sum := "a1ddd0b7edf31e1c632d02d3057daa5480f12c457f87c189b9562e03427a20dc", func := "loop.example/pub-g01460/laws.FnWrite", spec := "fnWrite", unfollowed := true, recurses := true, apart := false, narrowed := true }
def FnWriteUptoSaid : Prop := fnWriteUptoRow.holds Try.pinned (OpenSpec.upto fnWriteSpec)

/-- 'laws.FnWriteInto', WHERE WHAT IT READS IS OF BULK AT MOST 1048576: true; the input reads as it did. -/
def fnWriteIntoUptoRow : OpenClaim := { program := "yteajdljmbjdbkaa", sum := "a1ddd0b7edf31e1c632d02d3057daa5480f12c457f87c189b9562e03427a20dc", func := "loop.example/pub-g01460/laws.FnWriteInto", spec := "fnWriteInto", unfollowed := true, recurses := true, apart := false, narrowed := true }
def FnWriteIntoUptoSaid : Prop := fnWriteIntoUptoRow.holds Try.pinned (OpenSpec.upto fnWriteIntoSpec)

/-- 'laws.FnSingle', WHERE WHAT IT READS IS OF BULK AT MOST 1048576: true; the input reads as it did. -/
def fnSingleUptoRow : OpenClaim := { program := "yteajdljmbjdbkaa", sum := "a1ddd0b7edf31e1c632d02d3057daa5480f12c457f87c189b9562e03427a20dc", func := "loop.example/pub-g01460/laws.FnSingle", spec := "fnSingle", inPlace := ["internal/abi.NoEscape", "internal/bytealg.MakeNoZero"], apart := false, narrowed := true }
def FnSingleUptoSaid : Prop := fnSingleUptoRow.holds Try.pinned (OpenSpec.upto fnSingleSpec)

/-- 'laws.FnGeneric', WHERE WHAT IT READS IS OF BULK AT MOST 1048576: true; the input reads as it did. -/
def fnGenericUptoRow : OpenClaim := { program := "yteajdljmbjdbkaa", sum := "a1ddd0b7edf31e1c632d02d3057daa5480f12c457f87c189b9562e03427a20dc", func := "loop.example/pub-g01460/laws.FnGeneric", spec := "fnGeneric", unfollowed := true, recurses := true, apart := false, narrowed := true }
def FnGenericUptoSaid : Prop := fnGenericUptoRow.holds Try.pinned (OpenSpec.upto fnGenericSpec)

/-- 'laws.FnBehind', WHERE WHAT IT READS IS OF BULK AT MOST 1048576: true; the input reads as it did. -/
def fnBehindUptoRow : OpenClaim := { program := "yteajdljmbjdbkaa", sum := "a1ddd0b7edf31e1c632d02d3057daa5480f12c457f87c189b9562e03427a20dc", func := "loop.example/pub-g01460/laws.FnBehind", spec := "fnBehind", unfollowed := true, recurses := true, apart := false, narrowed := true }
def FnBehindUptoSaid : Prop := fnBehindUptoRow.holds Try.pinned (OpenSpec.upto fnBehindSpec)

/-- 'laws.FnByteTable', WHERE WHAT IT READS IS OF BULK AT MOST 1048576: true; the input reads as it did. -/
def fnByteTableUptoRow : OpenClaim := { program := "yteajdljmbjdbkaa", sum := "a1ddd0b7edf31e1c632d02d3057daa5480f12c457f87c189b9562e03427a20dc", func := "loop.example/pub-g01460/laws.FnByteTable", spec := "fnByteTable", unfollowed := true, recurses := true, apart := false, narrowed := true }
def FnByteTableUptoSaid : Prop := fnByteTableUptoRow.holds Try.pinned (OpenSpec.upto fnByteTableSpec)

/-- 'laws.FnCut', WHERE WHAT IT READS IS OF BULK AT MOST 1048576: true; the input reads as it did. -/
def fnCutUptoRow : OpenClaim := { program := "yteajdljmbjdbkaa", sum := "a1ddd0b7edf31e1c632d02d3057daa5480f12c457f87c189b9562e03427a20dc", func := "loop.example/pub-g01460/laws.FnCut", spec := "fnCut", unfollowed := true, recurses := true, apart := false, narrowed := true }
def FnCutUptoSaid : Prop := fnCutUptoRow.holds Try.pinned (OpenSpec.upto fnCutSpec)

/-- 'laws.FnDropped', WHERE WHAT IT READS IS OF BULK AT MOST 1048576: true; the input reads as it did. -/
def fnDroppedUptoRow : OpenClaim := { program := "yteajdljmbjdbkaa", sum := "a1ddd0b7edf31e1c632d02d3057daa5480f12c457f87c189b9562e03427a20dc", func := "loop.example/pub-g01460/laws.FnDropped", spec := "fnDropped", unfollowed := true, recurses := true, apart := false, narrowed := true }
def FnDroppedUptoSaid : Prop := fnDroppedUptoRow.holds Try.pinned (OpenSpec.upto fnDroppedSpec)

/-- 'laws.FnEscaped', WHERE WHAT IT READS IS OF BULK AT MOST 1048576: true; the input reads as it did. -/
def fnEscapedUptoRow : OpenClaim := { program := "yteajdljmbjdbkaa", sum := "a1ddd0b7edf31e1c632d02d3057daa5480f12c457f87c189b9562e03427a20dc", func := "loop.example/pub-g01460/laws.FnEscaped", spec := "fnEscaped", unfollowed := true, recurses := true, apart := false, narrowed := true }
def FnEscapedUptoSaid : Prop := fnEscapedUptoRow.holds Try.pinned (OpenSpec.upto fnEscapedSpec)

/-- 'laws.FnKept', WHERE WHAT IT READS IS OF BULK AT MOST 1048576: true; the input reads as it did. -/
def fnKeptUptoRow : OpenClaim := { program := "yteajdljmbjdbkaa", sum := "a1ddd0b7edf31e1c632d02d3057daa5480f12c457f87c189b9562e03427a20dc", func := "loop.example/pub-g01460/laws.FnKept", spec := "fnKept", unfollowed := true, recurses := true, apart := false, narrowed := true }
def FnKeptUptoSaid : Prop := fnKeptUptoRow.holds Try.pinned (OpenSpec.upto fnKeptSpec)

/-- 'laws.FnLongest', WHERE WHAT IT READS IS OF BULK AT MOST 1048576: true; the input reads as it did. -/
def fnLongestUptoRow : OpenClaim := { program := "yteajdljmbjdbkaa", sum := "a1ddd0b7edf31e1c632d02d3057daa5480f12c457f87c189b9562e03427a20dc", func := "loop.example/pub-g01460/laws.FnLongest", spec := "fnLongest", unfollowed := true, recurses := true, apart := false, narrowed := true }
def FnLongestUptoSaid : Prop := fnLongestUptoRow.holds Try.pinned (OpenSpec.upto fnLongestSpec)

/-- 'laws.FnOdd', WHERE WHAT IT READS IS OF BULK AT MOST 1048576: true; the input reads as it did. -/
def fnOddUptoRow : OpenClaim := { program := "yteajdljmbjdbkaa", sum := "a1ddd0b7edf31e1c632d02d3057daa5480f12c457f87c189b9562e03427a20dc", func := "loop.example/pub-g01460/laws.FnOdd", spec := "fnOdd", unfollowed := true, recurses := true, apart := false, narrowed := true }
def FnOddUptoSaid : Prop := fnOddUptoRow.holds Try.pinned (OpenSpec.upto fnOddSpec)

/-- 'laws.FnReplace', WHERE WHAT IT READS IS OF BULK AT MOST 1048576: true; the input reads as it did. -/
def fnReplaceUptoRow : OpenClaim := { program := "yteajdljmbjdbkaa", sum := "a1ddd0b7edf31e1c632d02d3057daa5480f12c457f87c189b9562e03427a20dc", func := "loop.example/pub-g01460/laws.FnReplace", spec := "fnReplace", unfollowed := true, recurses := true, apart := false, narrowed := true }
def FnReplaceUptoSaid : Prop := fnReplaceUptoRow.holds Try.pinned (OpenSpec.upto fnReplaceSpec)

end Rows
end Go.Proofs.Yteajdljmbjdbkaa
