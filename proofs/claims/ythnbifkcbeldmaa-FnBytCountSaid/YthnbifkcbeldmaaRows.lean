/-
  No cell of these rows narrows 'for every input' (looked for: loops, veiled, ifaces, maps, wideKeys, modest, calm, conditions, laid).
  DERIVED. THE GIVEN ROWS OF THIS SEAT. 3 by the template 'for every input the law returns true; each argument reads behind the call as it read before'; 0 by the template 'total and deterministic' (their statements: YthnbifkcbeldmaaTotals.lean).
  GIVEN WITH THE SEED: the statements are not yours to turn. If you find one false, say at which input.
  Laid BY PROGRAM, IN A SANDBOX (cutbox-rows.mjs): the forced cells as the released guide's own fill.sh prints them over the translation d37ece286aeedbee… (all of the seat's roots in one cut). By AI agents, Wed Nov 11 2026. No macro, syntax, notation, axiom, sorry.
-/
import Derived.Test.YthnbifkcbeldmaaChecked
import GoSem.Claim
import GoSem.ClaimJoined
import GoSem.ClaimMapViews
import Derived.JoinedTies
import Derived.KernelRfl
namespace Go.Proofs.Ythnbifkcbeldmaa
/- THE CELL 'sum', in the pinned program and in every row, IS THE sha256 OF THE DUMP (.gsa) THAT YthnbifkcbeldmaaProg.lean LOADS. Nothing in Lean hashes anything: it is a label: what it is worth is what the hold of that sum in a sandbox is worth. -/
noncomputable def Try.pinned : Pinned := { name := "ythnbifkcbeldmaa", sum := "d37ece286aeedbee3150c4be114f4fc7764a7fc62871515893d1137aae7dc8de", checked := Try.checked }
namespace Rows
def none {H : Type} : Left H := { results := [], args := [] }

/-- 'laws.FnStrJoin': WHATEVER THE INPUT: true; the input reads as it did. -/
def fnStrJoinSpec : ChangeSpec := { name := "fnStrJoin", fn := fun _ => fun
  | [d1, d2] => { results := [.lit (.bool true)], args := [d1, d2] }
  | _ => none }
def fnStrJoinRow : OpenClaim := { program := "ythnbifkcbeldmaa", sum := "d37ece286aeedbee3150c4be114f4fc7764a7fc62871515893d1137aae7dc8de", func := "loop.example/pub-g01460/laws.FnStrJoin", spec := "fnStrJoin", inPlace := ["internal/abi.NoEscape", "internal/bytealg.MakeNoZero"], apart := false }
def FnStrJoinSaid : Prop := fnStrJoinRow.holds Try.pinned (OpenSpec.ofChange fnStrJoinSpec)

/-- ITS FALSE NEIGHBOUR: 'it returns false'. Refute it at one input. -/
def fnStrJoinWrong : ChangeSpec := { name := "fnStrJoin", fn := fun _ => fun
  | [d1, d2] => { results := [.lit (.bool false)], args := [d1, d2] }
  | _ => none }
def FnStrJoinWrongFalsely : Prop := fnStrJoinRow.holds Try.pinned (OpenSpec.ofChange fnStrJoinWrong)

/-- 'laws.FnStrContainsRune': WHATEVER THE INPUT: true; the input reads as it did. -/
def fnStrContainsRuneSpec : ChangeSpec := { name := "fnStrContainsRune", fn := fun _ => fun
  | [d1, d2] => { results := [.lit (.bool true)], args := [d1, d2] }
  | _ => none }
def fnStrContainsRuneRow : OpenClaim := { program := "ythnbifkcbeldmaa", sum := "d37ece286aeedbee3150c4be114f4fc7764a7fc62871515893d1137aae7dc8de", func := "loop.example/pub-g01460/laws.FnStrContainsRune", spec := "fnStrContainsRune", apart := false }
def FnStrContainsRuneSaid : Prop := fnStrContainsRuneRow.holds Try.pinned (OpenSpec.ofChange fnStrContainsRuneSpec)

/-- ITS FALSE NEIGHBOUR: 'it returns false'. Refute it at one input. -/
def fnStrContainsRuneWrong : ChangeSpec := { name := "fnStrContainsRune", fn := fun _ => fun
  | [d1, d2] => { results := [.lit (.bool false)], args := [d1, d2] }
  | _ => none }
def FnStrContainsRuneWrongFalsely : Prop := fnStrContainsRuneRow.holds Try.pinned (OpenSpec.ofChange fnStrContainsRuneWrong)

/-- 'laws.FnBytCount': WHATEVER THE INPUT: true; the input reads as it did. -/
def fnBytCountSpec : ChangeSpec := { name := "fnBytCount", fn := fun _ => fun
  | [d1, d2] => { results := [.lit (.bool true)], args := [d1, d2] }
  | _ => none }
def fnBytCountRow : OpenClaim := { program := "ythnbifkcbeldmaa", sum := "d37ece286aeedbee3150c4be114f4fc7764a7fc62871515893d1137aae7dc8de", func := "loop.example/pub-g01460/laws.FnBytCount", spec := "fnBytCount", apart := false }
def FnBytCountSaid : Prop := fnBytCountRow.holds Try.pinned (OpenSpec.ofChange fnBytCountSpec)

/-- ITS FALSE NEIGHBOUR: 'it returns false'. Refute it at one input. -/
def fnBytCountWrong : ChangeSpec := { name := "fnBytCount", fn := fun _ => fun
  | [d1, d2] => { results := [.lit (.bool false)], args := [d1, d2] }
  | _ => none }
def FnBytCountWrongFalsely : Prop := fnBytCountRow.holds Try.pinned (OpenSpec.ofChange fnBytCountWrong)

/- THE SECOND FORM. 'bulk': how many values and letters a reading holds, each counted each time it is reached (what is shared counts as often as it is met; a slice's spare places count too). A statement '..UptoSaid' is the law's where the arguments, and the package variables that the reading takes, are together of bulk at most 1048576: NARROWER than '..Said'. Prove '..Said' where nothing that the law and all that it calls make is longer than what came in: it says more and counts as full. Else prove '..UptoSaid'. A law counts once. -/
mutual
def uptoBulk {H : Type} : DataW H → Nat
  | .lit (.string bytes) => bytes.length + 1
  | .lit _ => 1
  | .nil => 1
  | .ptr d => uptoBulk d + 1
  | .slice elems spare => uptoBulkAll elems + uptoBulkAll spare + 1
  | .agg parts => uptoBulkAll parts + 1
  | .iface _ d => uptoBulk d + 1
  | .map entries => uptoBulkEntries entries + 1
  | .held _ => 1
def uptoBulkAll {H : Type} : List (DataW H) → Nat
  | [] => 0
  | d :: r => uptoBulk d + uptoBulkAll r
def uptoBulkEntries {H : Type} : List (Lit × DataW H) → Nat
  | [] => 0
  | x :: r => uptoBulkEntry x + uptoBulkEntries r
def uptoBulkEntry {H : Type} : Lit × DataW H → Nat
  | (.string bytes, d) => bytes.length + uptoBulk d + 1
  | (_, d) => uptoBulk d + 1
 end
def uptoSmall : (H : Type) → List (DataW H) → Bool := fun _ ds => decide (uptoBulkAll ds ≤ 1048576)
def OpenSpec.upto (s : _root_.Go.ChangeSpec) : _root_.Go.OpenSpec := { _root_.Go.OpenSpec.ofChange s with cond := some uptoSmall }

/-- 'laws.FnStrJoin', WHERE WHAT IT READS IS OF BULK AT MOST 1048576: true; the input reads as it did. -/
def fnStrJoinUptoRow : OpenClaim := { program := "ythnbifkcbeldmaa", sum := "d37ece286aeedbee3150c4be114f4fc7764a7fc62871515893d1137aae7dc8de", func := "loop.example/pub-g01460/laws.FnStrJoin", spec := "fnStrJoin", inPlace := ["internal/abi.NoEscape", "internal/bytealg.MakeNoZero"], apart := false, narrowed := true }
def FnStrJoinUptoSaid : Prop := fnStrJoinUptoRow.holds Try.pinned (OpenSpec.upto fnStrJoinSpec)

/-- 'laws.FnStrContainsRune', WHERE WHAT IT READS IS OF BULK AT MOST 1048576: true; the input reads as it did. -/
def fnStrContainsRuneUptoRow : OpenClaim := { program := "ythnbifkcbeldmaa", sum := "d37ece286aeedbee3150c4be114f4fc7764a7fc62871515893d1137aae7dc8de", func := "loop.example/pub-g01460/laws.FnStrContainsRune", spec := "fnStrContainsRune", apart := false, narrowed := true }
def FnStrContainsRuneUptoSaid : Prop := fnStrContainsRuneUptoRow.holds Try.pinned (OpenSpec.upto fnStrContainsRuneSpec)

/-- 'laws.FnBytCount', WHERE WHAT IT READS IS OF BULK AT MOST 1048576: true; the input reads as it did. -/
def fnBytCountUptoRow : OpenClaim := { program := "ythnbifkcbeldmaa", sum := "d37ece286aeedbee3150c4be114f4fc7764a7fc62871515893d1137aae7dc8de", func := "loop.example/pub-g01460/laws.FnBytCount", spec := "fnBytCount", apart := false, narrowed := true }
def FnBytCountUptoSaid : Prop := fnBytCountUptoRow.holds Try.pinned (OpenSpec.upto fnBytCountSpec)

end Rows
end Go.Proofs.Ythnbifkcbeldmaa
