/-
  No cell of these rows narrows 'for every input' (looked for: loops, veiled, ifaces, maps, wideKeys, modest, calm, conditions, laid).
  DERIVED. THE GIVEN ROWS OF THIS SEAT. 12 by the template 'for every input the law returns true; each argument reads behind the call as it read before'; 0 by the template 'total and deterministic' (their statements: YtpdlndpimfphlaaTotals.lean).
  GIVEN WITH THE SEED: the statements are not yours to turn. If you find one false, say at which input.
  Laid BY PROGRAM, IN A SANDBOX (cutbox-rows.mjs): the forced cells as the released guide's own fill.sh prints them over the translation ee4e1ab2dabd8bab… (all of the seat's roots in one cut). By AI agents, Wed Nov 11 2026. No macro, syntax, notation, axiom, sorry.
-/
import Derived.Test.YtpdlndpimfphlaaChecked
import GoSem.Claim
import GoSem.ClaimJoined
import GoSem.ClaimMapViews
import Derived.JoinedTies
import Derived.KernelRfl
namespace Go.Proofs.Ytpdlndpimfphlaa
/- THE CELL 'sum', in the pinned program and in every row, IS THE sha256 OF THE DUMP (.gsa) THAT YtpdlndpimfphlaaProg.lean LOADS. Nothing in Lean hashes anything: it is a label: what it is worth is what the hold of that sum in a sandbox is worth. -/
noncomputable def Try.pinned : Pinned := { name := "ytpdlndpimfphlaa", sum := "ee4e1ab2dabd8bab6ca0c270f8a60f0b93096d24e6c635cc3e3e437e35a448b0", checked := Try.checked }
namespace Rows
def none {H : Type} : Left H := { results := [], args := [] }

/-- 'laws.FnStrLastIndexByte': WHATEVER THE INPUT: true; the input reads as it did. -/
def fnStrLastIndexByteSpec : ChangeSpec := { name := "fnStrLastIndexByte", fn := fun _ => fun
  | [d1, d2] => { results := [.lit (.bool true)], args := [d1, d2] }
  | _ => none }
def fnStrLastIndexByteRow : OpenClaim := { program := "ytpdlndpimfphlaa", sum := "ee4e1ab2dabd8bab6ca0c270f8a60f0b93096d24e6c635cc3e3e437e35a448b0", func := "loop.example/pub-g01460/laws.FnStrLastIndexByte", spec := "fnStrLastIndexByte", apart := false }
def FnStrLastIndexByteSaid : Prop := fnStrLastIndexByteRow.holds Try.pinned (OpenSpec.ofChange fnStrLastIndexByteSpec)

/-- ITS FALSE NEIGHBOUR: 'it returns false'. Refute it at one input. -/
def fnStrLastIndexByteWrong : ChangeSpec := { name := "fnStrLastIndexByte", fn := fun _ => fun
  | [d1, d2] => { results := [.lit (.bool false)], args := [d1, d2] }
  | _ => none }
def FnStrLastIndexByteWrongFalsely : Prop := fnStrLastIndexByteRow.holds Try.pinned (OpenSpec.ofChange fnStrLastIndexByteWrong)

/-- 'laws.FnHashJoin': WHATEVER THE INPUT: true; the input reads as it did. -/
def fnHashJoinSpec : ChangeSpec := { name := "fnHashJoin", fn := fun _ => fun
  | [d1, d2] => { results := [.lit (.bool true)], args := [d1, d2] }
  | _ => none }
def fnHashJoinRow : OpenClaim := { program := "ytpdlndpimfphlaa", sum := "ee4e1ab2dabd8bab6ca0c270f8a60f0b93096d24e6c635cc3e3e437e35a448b0", func := "loop.example/pub-g01460/laws.FnHashJoin", spec := "fnHashJoin", apart := false }
def FnHashJoinSaid : Prop := fnHashJoinRow.holds Try.pinned (OpenSpec.ofChange fnHashJoinSpec)

/-- ITS FALSE NEIGHBOUR: 'it returns false'. Refute it at one input. -/
def fnHashJoinWrong : ChangeSpec := { name := "fnHashJoin", fn := fun _ => fun
  | [d1, d2] => { results := [.lit (.bool false)], args := [d1, d2] }
  | _ => none }
def FnHashJoinWrongFalsely : Prop := fnHashJoinRow.holds Try.pinned (OpenSpec.ofChange fnHashJoinWrong)

/-- 'laws.FnHashBack': WHATEVER THE INPUT: true; the input reads as it did. -/
def fnHashBackSpec : ChangeSpec := { name := "fnHashBack", fn := fun _ => fun
  | [d] => { results := [.lit (.bool true)], args := [d] }
  | _ => none }
def fnHashBackRow : OpenClaim := { program := "ytpdlndpimfphlaa", sum := "ee4e1ab2dabd8bab6ca0c270f8a60f0b93096d24e6c635cc3e3e437e35a448b0", func := "loop.example/pub-g01460/laws.FnHashBack", spec := "fnHashBack", apart := false }
def FnHashBackSaid : Prop := fnHashBackRow.holds Try.pinned (OpenSpec.ofChange fnHashBackSpec)

/-- ITS FALSE NEIGHBOUR: 'it returns false'. Refute it at one input. -/
def fnHashBackWrong : ChangeSpec := { name := "fnHashBack", fn := fun _ => fun
  | [d] => { results := [.lit (.bool false)], args := [d] }
  | _ => none }
def FnHashBackWrongFalsely : Prop := fnHashBackRow.holds Try.pinned (OpenSpec.ofChange fnHashBackWrong)

/-- 'laws.FnBytCompare': WHATEVER THE INPUT: true; the input reads as it did. -/
def fnBytCompareSpec : ChangeSpec := { name := "fnBytCompare", fn := fun _ => fun
  | [d1, d2] => { results := [.lit (.bool true)], args := [d1, d2] }
  | _ => none }
def fnBytCompareRow : OpenClaim := { program := "ytpdlndpimfphlaa", sum := "ee4e1ab2dabd8bab6ca0c270f8a60f0b93096d24e6c635cc3e3e437e35a448b0", func := "loop.example/pub-g01460/laws.FnBytCompare", spec := "fnBytCompare", apart := false }
def FnBytCompareSaid : Prop := fnBytCompareRow.holds Try.pinned (OpenSpec.ofChange fnBytCompareSpec)

/-- ITS FALSE NEIGHBOUR: 'it returns false'. Refute it at one input. -/
def fnBytCompareWrong : ChangeSpec := { name := "fnBytCompare", fn := fun _ => fun
  | [d1, d2] => { results := [.lit (.bool false)], args := [d1, d2] }
  | _ => none }
def FnBytCompareWrongFalsely : Prop := fnBytCompareRow.holds Try.pinned (OpenSpec.ofChange fnBytCompareWrong)

/-- 'laws.FnRabinKarpLast': WHATEVER THE INPUT: true; the input reads as it did. -/
def fnRabinKarpLastSpec : ChangeSpec := { name := "fnRabinKarpLast", fn := fun _ => fun
  | [d1, d2] => { results := [.lit (.bool true)], args := [d1, d2] }
  | _ => none }
def fnRabinKarpLastRow : OpenClaim := { program := "ytpdlndpimfphlaa", sum := "ee4e1ab2dabd8bab6ca0c270f8a60f0b93096d24e6c635cc3e3e437e35a448b0", func := "loop.example/pub-g01460/laws.FnRabinKarpLast", spec := "fnRabinKarpLast", apart := false }
def FnRabinKarpLastSaid : Prop := fnRabinKarpLastRow.holds Try.pinned (OpenSpec.ofChange fnRabinKarpLastSpec)

/-- ITS FALSE NEIGHBOUR: 'it returns false'. Refute it at one input. -/
def fnRabinKarpLastWrong : ChangeSpec := { name := "fnRabinKarpLast", fn := fun _ => fun
  | [d1, d2] => { results := [.lit (.bool false)], args := [d1, d2] }
  | _ => none }
def FnRabinKarpLastWrongFalsely : Prop := fnRabinKarpLastRow.holds Try.pinned (OpenSpec.ofChange fnRabinKarpLastWrong)

/-- 'laws.FnAlgIndexByte': WHATEVER THE INPUT: true; the input reads as it did. -/
def fnAlgIndexByteSpec : ChangeSpec := { name := "fnAlgIndexByte", fn := fun _ => fun
  | [d1, d2] => { results := [.lit (.bool true)], args := [d1, d2] }
  | _ => none }
def fnAlgIndexByteRow : OpenClaim := { program := "ytpdlndpimfphlaa", sum := "ee4e1ab2dabd8bab6ca0c270f8a60f0b93096d24e6c635cc3e3e437e35a448b0", func := "loop.example/pub-g01460/laws.FnAlgIndexByte", spec := "fnAlgIndexByte", apart := false }
def FnAlgIndexByteSaid : Prop := fnAlgIndexByteRow.holds Try.pinned (OpenSpec.ofChange fnAlgIndexByteSpec)

/-- ITS FALSE NEIGHBOUR: 'it returns false'. Refute it at one input. -/
def fnAlgIndexByteWrong : ChangeSpec := { name := "fnAlgIndexByte", fn := fun _ => fun
  | [d1, d2] => { results := [.lit (.bool false)], args := [d1, d2] }
  | _ => none }
def FnAlgIndexByteWrongFalsely : Prop := fnAlgIndexByteRow.holds Try.pinned (OpenSpec.ofChange fnAlgIndexByteWrong)

/-- 'laws.FnStrLastIndex': WHATEVER THE INPUT: true; the input reads as it did. -/
def fnStrLastIndexSpec : ChangeSpec := { name := "fnStrLastIndex", fn := fun _ => fun
  | [d1, d2] => { results := [.lit (.bool true)], args := [d1, d2] }
  | _ => none }
def fnStrLastIndexRow : OpenClaim := { program := "ytpdlndpimfphlaa", sum := "ee4e1ab2dabd8bab6ca0c270f8a60f0b93096d24e6c635cc3e3e437e35a448b0", func := "loop.example/pub-g01460/laws.FnStrLastIndex", spec := "fnStrLastIndex", apart := false }
def FnStrLastIndexSaid : Prop := fnStrLastIndexRow.holds Try.pinned (OpenSpec.ofChange fnStrLastIndexSpec)

/-- ITS FALSE NEIGHBOUR: 'it returns false'. Refute it at one input. -/
def fnStrLastIndexWrong : ChangeSpec := { name := "fnStrLastIndex", fn := fun _ => fun
  | [d1, d2] => { results := [.lit (.bool false)], args := [d1, d2] }
  | _ => none }
def FnStrLastIndexWrongFalsely : Prop := fnStrLastIndexRow.holds Try.pinned (OpenSpec.ofChange fnStrLastIndexWrong)

/-- 'laws.FnAlgCompare': WHATEVER THE INPUT: true; the input reads as it did. -/
def fnAlgCompareSpec : ChangeSpec := { name := "fnAlgCompare", fn := fun _ => fun
  | [d1, d2] => { results := [.lit (.bool true)], args := [d1, d2] }
  | _ => none }
def fnAlgCompareRow : OpenClaim := { program := "ytpdlndpimfphlaa", sum := "ee4e1ab2dabd8bab6ca0c270f8a60f0b93096d24e6c635cc3e3e437e35a448b0", func := "loop.example/pub-g01460/laws.FnAlgCompare", spec := "fnAlgCompare", apart := false }
def FnAlgCompareSaid : Prop := fnAlgCompareRow.holds Try.pinned (OpenSpec.ofChange fnAlgCompareSpec)

/-- ITS FALSE NEIGHBOUR: 'it returns false'. Refute it at one input. -/
def fnAlgCompareWrong : ChangeSpec := { name := "fnAlgCompare", fn := fun _ => fun
  | [d1, d2] => { results := [.lit (.bool false)], args := [d1, d2] }
  | _ => none }
def FnAlgCompareWrongFalsely : Prop := fnAlgCompareRow.holds Try.pinned (OpenSpec.ofChange fnAlgCompareWrong)

/-- 'laws.FnStrCutLast': WHATEVER THE INPUT: true; the input reads as it did. -/
def fnStrCutLastSpec : ChangeSpec := { name := "fnStrCutLast", fn := fun _ => fun
  | [d1, d2] => { results := [.lit (.bool true)], args := [d1, d2] }
  | _ => none }
def fnStrCutLastRow : OpenClaim := { program := "ytpdlndpimfphlaa", sum := "ee4e1ab2dabd8bab6ca0c270f8a60f0b93096d24e6c635cc3e3e437e35a448b0", func := "loop.example/pub-g01460/laws.FnStrCutLast", spec := "fnStrCutLast", apart := false }
def FnStrCutLastSaid : Prop := fnStrCutLastRow.holds Try.pinned (OpenSpec.ofChange fnStrCutLastSpec)

/-- ITS FALSE NEIGHBOUR: 'it returns false'. Refute it at one input. -/
def fnStrCutLastWrong : ChangeSpec := { name := "fnStrCutLast", fn := fun _ => fun
  | [d1, d2] => { results := [.lit (.bool false)], args := [d1, d2] }
  | _ => none }
def FnStrCutLastWrongFalsely : Prop := fnStrCutLastRow.holds Try.pinned (OpenSpec.ofChange fnStrCutLastWrong)

/-- 'laws.FnStrJoin': WHATEVER THE INPUT: true; the input reads as it did. -/
def fnStrJoinSpec : ChangeSpec := { name := "fnStrJoin", fn := fun _ => fun
  | [d1, d2] => { results := [.lit (.bool true)], args := [d1, d2] }
  | _ => none }
def fnStrJoinRow : OpenClaim := { program := "ytpdlndpimfphlaa", sum := "ee4e1ab2dabd8bab6ca0c270f8a60f0b93096d24e6c635cc3e3e437e35a448b0", func := "loop.example/pub-g01460/laws.FnStrJoin", spec := "fnStrJoin", inPlace := ["internal/abi.NoEscape", "internal/bytealg.MakeNoZero"], apart := false }
def FnStrJoinSaid : Prop := fnStrJoinRow.holds Try.pinned (OpenSpec.ofChange fnStrJoinSpec)

/-- ITS FALSE NEIGHBOUR: 'it returns false'. Refute it at one input. -/
def fnStrJoinWrong : ChangeSpec := { name := "fnStrJoin", fn := fun _ => fun
  | [d1, d2] => { results := [.lit (.bool false)], args := [d1, d2] }
  | _ => none }
def FnStrJoinWrongFalsely : Prop := fnStrJoinRow.holds Try.pinned (OpenSpec.ofChange fnStrJoinWrong)

/-- 'laws.FnBytLastIndex': WHATEVER THE INPUT: true; the input reads as it did. -/
def fnBytLastIndexSpec : ChangeSpec := { name := "fnBytLastIndex", fn := fun _ => fun
  | [d1, d2] => { results := [.lit (.bool true)], args := [d1, d2] }
  | _ => none }
def fnBytLastIndexRow : OpenClaim := { program := "ytpdlndpimfphlaa", sum := "ee4e1ab2dabd8bab6ca0c270f8a60f0b93096d24e6c635cc3e3e437e35a448b0", func := "loop.example/pub-g01460/laws.FnBytLastIndex", spec := "fnBytLastIndex", apart := false }
def FnBytLastIndexSaid : Prop := fnBytLastIndexRow.holds Try.pinned (OpenSpec.ofChange fnBytLastIndexSpec)

/-- ITS FALSE NEIGHBOUR: 'it returns false'. Refute it at one input. -/
def fnBytLastIndexWrong : ChangeSpec := { name := "fnBytLastIndex", fn := fun _ => fun
  | [d1, d2] => { results := [.lit (.bool false)], args := [d1, d2] }
  | _ => none }
def FnBytLastIndexWrongFalsely : Prop := fnBytLastIndexRow.holds Try.pinned (OpenSpec.ofChange fnBytLastIndexWrong)

/-- 'laws.FnStrIndexError': WHATEVER THE INPUT: true; the input reads as it did. -/
def fnStrIndexErrorSpec : ChangeSpec := { name := "fnStrIndexError", fn := fun _ => fun
  | [d] => { results := [.lit (.bool true)], args := [d] }
  | _ => none }
def fnStrIndexErrorRow : OpenClaim := { program := "ytpdlndpimfphlaa", sum := "ee4e1ab2dabd8bab6ca0c270f8a60f0b93096d24e6c635cc3e3e437e35a448b0", func := "loop.example/pub-g01460/laws.FnStrIndexError", spec := "fnStrIndexError", apart := false }
def FnStrIndexErrorSaid : Prop := fnStrIndexErrorRow.holds Try.pinned (OpenSpec.ofChange fnStrIndexErrorSpec)

/-- ITS FALSE NEIGHBOUR: 'it returns false'. Refute it at one input. -/
def fnStrIndexErrorWrong : ChangeSpec := { name := "fnStrIndexError", fn := fun _ => fun
  | [d] => { results := [.lit (.bool false)], args := [d] }
  | _ => none }
def FnStrIndexErrorWrongFalsely : Prop := fnStrIndexErrorRow.holds Try.pinned (OpenSpec.ofChange fnStrIndexErrorWrong)

/- THE SECOND FORM. 'bulk': how many values and letters a reading holds, each counted each time it is reached (what is shared counts as often as it is met; a slice's spare places count too). A statement '..UptoSaid' is the law's where the arguments, and the package variables that the reading takes, are together of bulk at most 1048576: NARROWER than '..Said'. Prove '..Said' where nothing that the law and all that it calls make is longer than what came in: it says more and counts as full. Else prove '..UptoSaid'. A law counts once. -/
mutual
def uptoBulk {H : Type} : DataW H → Nat
  | .lit (.string bytes) => bytes.length + 1
  | .lit _ => 1
  | .nil => 1
  | .ptr d => uptoBulk d + 1
  | .slice elems spare => uptoBulkAll elems + uptoBulkAll spare + 1
  | .agg parts => uptoBulkAll parts + 1
  | .iface _ d => uptoBulk d + 1
  | .map entries => uptoBulkEntries entries + 1
  | .held _ => 1
def uptoBulkAll {H : Type} : List (DataW H) → Nat
  | [] => 0
  | d :: r => uptoBulk d + uptoBulkAll r
def uptoBulkEntries {H : Type} : List (Lit × DataW H) → Nat
  | [] => 0
  | x :: r => uptoBulkEntry x + uptoBulkEntries r
def uptoBulkEntry {H : Type} : Lit × DataW H → Nat
  | (.string bytes, d) => bytes.length + uptoBulk d + 1
  | (_, d) => uptoBulk d + 1
 end
def uptoSmall : (H : Type) → List (DataW H) → Bool := fun _ ds => decide (uptoBulkAll ds ≤ 1048576)
def OpenSpec.upto (s : _root_.Go.ChangeSpec) : _root_.Go.OpenSpec := { _root_.Go.OpenSpec.ofChange s with cond := some uptoSmall }

/-- 'laws.FnStrLastIndexByte', WHERE WHAT IT READS IS OF BULK AT MOST 1048576: true; the input reads as it did. -/
def fnStrLastIndexByteUptoRow : OpenClaim := { program := "ytpdlndpimfphlaa", sum := "ee4e1ab2dabd8bab6ca0c270f8a60f0b93096d24e6c635cc3e3e437e35a448b0", func := "loop.example/pub-g01460/laws.FnStrLastIndexByte", spec := "fnStrLastIndexByte", apart := false, narrowed := true }
def FnStrLastIndexByteUptoSaid : Prop := fnStrLastIndexByteUptoRow.holds Try.pinned (OpenSpec.upto fnStrLastIndexByteSpec)

/-- 'laws.FnHashJoin', WHERE WHAT IT READS IS OF BULK AT MOST 1048576: true; the input reads as it did. -/
def fnHashJoinUptoRow : OpenClaim := { program := "ytpdlndpimfphlaa", sum := "ee4e1ab2dabd8bab6ca0c270f8a60f0b93096d24e6c635cc3e3e437e35a448b0", func := "loop.example/pub-g01460/laws.FnHashJoin", spec := "fnHashJoin", apart := false, narrowed := true }
def FnHashJoinUptoSaid : Prop := fnHashJoinUptoRow.holds Try.pinned (OpenSpec.upto fnHashJoinSpec)

/-- 'laws.FnHashBack', WHERE WHAT IT READS IS OF BULK AT MOST 1048576: true; the input reads as it did. -/
def fnHashBackUptoRow : OpenClaim := { program := "ytpdlndpimfphlaa", sum := "ee4e1ab2dabd8bab6ca0c270f8a60f0b93096d24e6c635cc3e3e437e35a448b0", func := "loop.example/pub-g01460/laws.FnHashBack", spec := "fnHashBack", apart := false, narrowed := true }
def FnHashBackUptoSaid : Prop := fnHashBackUptoRow.holds Try.pinned (OpenSpec.upto fnHashBackSpec)

/-- 'laws.FnBytCompare', WHERE WHAT IT READS IS OF BULK AT MOST 1048576: true; the input reads as it did. -/
def fnBytCompareUptoRow : OpenClaim := { program := "ytpdlndpimfphlaa", sum := "ee4e1ab2dabd8bab6ca0c270f8a60f0b93096d24e6c635cc3e3e437e35a448b0", func := "loop.example/pub-g01460/laws.FnBytCompare", spec := "fnBytCompare", apart := false, narrowed := true }
def FnBytCompareUptoSaid : Prop := fnBytCompareUptoRow.holds Try.pinned (OpenSpec.upto fnBytCompareSpec)

/-- 'laws.FnRabinKarpLast', WHERE WHAT IT READS IS OF BULK AT MOST 1048576: true; the input reads as it did. -/
def fnRabinKarpLastUptoRow : OpenClaim := { program := "ytpdlndpimfphlaa", sum := "ee4e1ab2dabd8bab6ca0c270f8a60f0b93096d24e6c635cc3e3e437e35a448b0", func := "loop.example/pub-g01460/laws.FnRabinKarpLast", spec := "fnRabinKarpLast", apart := false, narrowed := true }
def FnRabinKarpLastUptoSaid : Prop := fnRabinKarpLastUptoRow.holds Try.pinned (OpenSpec.upto fnRabinKarpLastSpec)

/-- 'laws.FnAlgIndexByte', WHERE WHAT IT READS IS OF BULK AT MOST 1048576: true; the input reads as it did. -/
def fnAlgIndexByteUptoRow : OpenClaim := { program := "ytpdlndpimfphlaa", sum := "ee4e1ab2dabd8bab6ca0c270f8a60f0b93096d24e6c635cc3e3e437e35a448b0", func := "loop.example/pub-g01460/laws.FnAlgIndexByte", spec := "fnAlgIndexByte", apart := false, narrowed := true }
def FnAlgIndexByteUptoSaid : Prop := fnAlgIndexByteUptoRow.holds Try.pinned (OpenSpec.upto fnAlgIndexByteSpec)

/-- 'laws.FnStrLastIndex', WHERE WHAT IT READS IS OF BULK AT MOST 1048576: true; the input reads as it did. -/
def fnStrLastIndexUptoRow : OpenClaim := { program := "ytpdlndpimfphlaa", sum := "ee4e1ab2dabd8bab6ca0c270f8a60f0b93096d24e6c635cc3e3e437e35a448b0", func := "loop.example/pub-g01460/laws.FnStrLastIndex", spec := "fnStrLastIndex", apart := false, narrowed := true }
def FnStrLastIndexUptoSaid : Prop := fnStrLastIndexUptoRow.holds Try.pinned (OpenSpec.upto fnStrLastIndexSpec)

/-- 'laws.FnAlgCompare', WHERE WHAT IT READS IS OF BULK AT MOST 1048576: true; the input reads as it did. -/
def fnAlgCompareUptoRow : OpenClaim := { program := "ytpdlndpimfphlaa", sum := "ee4e1ab2dabd8bab6ca0c270f8a60f0b93096d24e6c635cc3e3e437e35a448b0", func := "loop.example/pub-g01460/laws.FnAlgCompare", spec := "fnAlgCompare", apart := false, narrowed := true }
def FnAlgCompareUptoSaid : Prop := fnAlgCompareUptoRow.holds Try.pinned (OpenSpec.upto fnAlgCompareSpec)

/-- 'laws.FnStrCutLast', WHERE WHAT IT READS IS OF BULK AT MOST 1048576: true; the input reads as it did. -/
def fnStrCutLastUptoRow : OpenClaim := { program := "ytpdlndpimfphlaa", sum := "ee4e1ab2dabd8bab6ca0c270f8a60f0b93096d24e6c635cc3e3e437e35a448b0", func := "loop.example/pub-g01460/laws.FnStrCutLast", spec := "fnStrCutLast", apart := false, narrowed := true }
def FnStrCutLastUptoSaid : Prop := fnStrCutLastUptoRow.holds Try.pinned (OpenSpec.upto fnStrCutLastSpec)

/-- 'laws.FnStrJoin', WHERE WHAT IT READS IS OF BULK AT MOST 1048576: true; the input reads as it did. -/
def fnStrJoinUptoRow : OpenClaim := { program := "ytpdlndpimfphlaa", sum := "ee4e1ab2dabd8bab6ca0c270f8a60f0b93096d24e6c635cc3e3e437e35a448b0", func := "loop.example/pub-g01460/laws.FnStrJoin", spec := "fnStrJoin", inPlace := ["internal/abi.NoEscape", "internal/bytealg.MakeNoZero"], apart := false, narrowed := true }
def FnStrJoinUptoSaid : Prop := fnStrJoinUptoRow.holds Try.pinned (OpenSpec.upto fnStrJoinSpec)

/-- 'laws.FnBytLastIndex', WHERE WHAT IT READS IS OF BULK AT MOST 1048576: true; the input reads as it did. -/
def fnBytLastIndexUptoRow : OpenClaim := { program := "ytpdlndpimfphlaa", sum := "ee4e1ab2dabd8bab6ca0c270f8a60f0b93096d24e6c635cc3e3e437e35a448b0", func := "loop.example/pub-g01460/laws.FnBytLastIndex", spec := "fnBytLastIndex", apart := false, narrowed := true }
def FnBytLastIndexUptoSaid : Prop := fnBytLastIndexUptoRow.holds Try.pinned (OpenSpec.upto fnBytLastIndexSpec)

/-- 'laws.FnStrIndexError', WHERE WHAT IT READS IS OF BULK AT MOST 1048576: true; the input reads as it did. -/
def fnStrIndexErrorUptoRow : OpenClaim := { program := "ytpdlndpimfphlaa", sum := "ee4e1ab2dabd8bab6ca0c270f8a60f0b93096d24e6c635cc3e3e437e35a448b0", func := "loop.example/pub-g01460/laws.FnStrIndexError", spec := "fnStrIndexError", apart := false, narrowed := true }
def FnStrIndexErrorUptoSaid : Prop := fnStrIndexErrorUptoRow.holds Try.pinned (OpenSpec.upto fnStrIndexErrorSpec)

end Rows
end Go.Proofs.Ytpdlndpimfphlaa
