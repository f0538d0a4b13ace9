/-
  No cell of these rows narrows 'for every input' (looked for: loops, veiled, ifaces, maps, wideKeys, modest, calm, conditions, laid).
  DERIVED. THE GIVEN ROWS OF THIS SEAT. 5 by the template 'for every input the law returns true; each argument reads behind the call as it read before'; 0 by the template 'total and deterministic' (their statements: YtocegdangdcicaaTotals.lean).
  GIVEN WITH THE SEED: the statements are not yours to turn. If you find one false, say at which input.
  Laid BY PROGRAM, IN A SANDBOX (cutbox-rows.mjs): the forced cells as the released guide's own fill.sh prints them over the translation c45ca16d9c4d61b1… (all of the seat's roots in one cut). By AI agents, Wed Nov 11 2026. No macro, syntax, notation, axiom, sorry.
-/
import Derived.Test.YtocegdangdcicaaChecked
import GoSem.Claim
import GoSem.ClaimJoined
import GoSem.ClaimMapViews
import Derived.JoinedTies
import Derived.KernelRfl
namespace Go.Proofs.Ytocegdangdcicaa
/- THE CELL 'sum', in the pinned program and in every row, IS THE sha256 OF THE DUMP (.gsa) THAT YtocegdangdcicaaProg.lean LOADS. Nothing in Lean hashes anything: it is a label: what it is worth is what the hold of that sum in a sandbox is worth. -/
noncomputable def Try.pinned : Pinned := { name := "ytocegdangdcicaa", sum := "c45ca16d9c4d61b1ea76f5fe25c21b3d42ba71f569570ce8212e6d9df11ca420", checked := Try.checked }
namespace Rows
def none {H : Type} : Left H := { results := [], args := [] }

/-- 'laws.FnStrContainsRune': WHATEVER THE INPUT: true; the input reads as it did. -/
def fnStrContainsRuneSpec : ChangeSpec := { name := "fnStrContainsRune", fn := fun _ => fun
  | [d1, d2] => { results := [.lit (.bool true)], args := [d1, d2] }
  | _ => none }
def fnStrContainsRuneRow : OpenClaim := { program := "ytocegdangdcicaa", sum := "c45ca16d9c4d61b1ea76f5fe25c21b3d42ba71f569570ce8212e6d9df11ca420", func := "loop.example/pub-g01460/laws.FnStrContainsRune", spec := "fnStrContainsRune", apart := false }
def FnStrContainsRuneSaid : Prop := fnStrContainsRuneRow.holds Try.pinned (OpenSpec.ofChange fnStrContainsRuneSpec)

/-- ITS FALSE NEIGHBOUR: 'it returns false'. Refute it at one input. -/
def fnStrContainsRuneWrong : ChangeSpec := { name := "fnStrContainsRune", fn := fun _ => fun
  | [d1, d2] => { results := [.lit (.bool false)], args := [d1, d2] }
  | _ => none }
def FnStrContainsRuneWrongFalsely : Prop := fnStrContainsRuneRow.holds Try.pinned (OpenSpec.ofChange fnStrContainsRuneWrong)

/-- 'laws.FnStrContains': WHATEVER THE INPUT: true; the input reads as it did. -/
def fnStrContainsSpec : ChangeSpec := { name := "fnStrContains", fn := fun _ => fun
  | [d1, d2] => { results := [.lit (.bool true)], args := [d1, d2] }
  | _ => none }
def fnStrContainsRow : OpenClaim := { program := "ytocegdangdcicaa", sum := "c45ca16d9c4d61b1ea76f5fe25c21b3d42ba71f569570ce8212e6d9df11ca420", func := "loop.example/pub-g01460/laws.FnStrContains", spec := "fnStrContains", apart := false }
def FnStrContainsSaid : Prop := fnStrContainsRow.holds Try.pinned (OpenSpec.ofChange fnStrContainsSpec)

/-- ITS FALSE NEIGHBOUR: 'it returns false'. Refute it at one input. -/
def fnStrContainsWrong : ChangeSpec := { name := "fnStrContains", fn := fun _ => fun
  | [d1, d2] => { results := [.lit (.bool false)], args := [d1, d2] }
  | _ => none }
def FnStrContainsWrongFalsely : Prop := fnStrContainsRow.holds Try.pinned (OpenSpec.ofChange fnStrContainsWrong)

/-- 'laws.FnStrCount': WHATEVER THE INPUT: true; the input reads as it did. -/
def fnStrCountSpec : ChangeSpec := { name := "fnStrCount", fn := fun _ => fun
  | [d1, d2] => { results := [.lit (.bool true)], args := [d1, d2] }
  | _ => none }
def fnStrCountRow : OpenClaim := { program := "ytocegdangdcicaa", sum := "c45ca16d9c4d61b1ea76f5fe25c21b3d42ba71f569570ce8212e6d9df11ca420", func := "loop.example/pub-g01460/laws.FnStrCount", spec := "fnStrCount", apart := false }
def FnStrCountSaid : Prop := fnStrCountRow.holds Try.pinned (OpenSpec.ofChange fnStrCountSpec)

/-- ITS FALSE NEIGHBOUR: 'it returns false'. Refute it at one input. -/
def fnStrCountWrong : ChangeSpec := { name := "fnStrCount", fn := fun _ => fun
  | [d1, d2] => { results := [.lit (.bool false)], args := [d1, d2] }
  | _ => none }
def FnStrCountWrongFalsely : Prop := fnStrCountRow.holds Try.pinned (OpenSpec.ofChange fnStrCountWrong)

/-- 'laws.FnIndexMade': WHATEVER THE INPUT: true; the input reads as it did. -/
def fnIndexMadeSpec : ChangeSpec := { name := "fnIndexMade", fn := fun _ => fun
  | [d1, d2, d3] => { results := [.lit (.bool true)], args := [d1, d2, d3] }
  | _ => none }
def fnIndexMadeRow : OpenClaim := { program := "ytocegdangdcicaa", sum := "c45ca16d9c4d61b1ea76f5fe25c21b3d42ba71f569570ce8212e6d9df11ca420", func := "loop.example/pub-g01460/laws.FnIndexMade", spec := "fnIndexMade", apart := false }
def FnIndexMadeSaid : Prop := fnIndexMadeRow.holds Try.pinned (OpenSpec.ofChange fnIndexMadeSpec)

/-- ITS FALSE NEIGHBOUR: 'it returns false'. Refute it at one input. -/
def fnIndexMadeWrong : ChangeSpec := { name := "fnIndexMade", fn := fun _ => fun
  | [d1, d2, d3] => { results := [.lit (.bool false)], args := [d1, d2, d3] }
  | _ => none }
def FnIndexMadeWrongFalsely : Prop := fnIndexMadeRow.holds Try.pinned (OpenSpec.ofChange fnIndexMadeWrong)

/-- 'laws.FnBytCount': WHATEVER THE INPUT: true; the input reads as it did. -/
def fnBytCountSpec : ChangeSpec := { name := "fnBytCount", fn := fun _ => fun
  | [d1, d2] => { results := [.lit (.bool true)], args := [d1, d2] }
  | _ => none }
def fnBytCountRow : OpenClaim := { program := "ytocegdangdcicaa", sum := "c45ca16d9c4d61b1ea76f5fe25c21b3d42ba71f569570ce8212e6d9df11ca420", func := "loop.example/pub-g01460/laws.FnBytCount", spec := "fnBytCount", apart := false }
def FnBytCountSaid : Prop := fnBytCountRow.holds Try.pinned (OpenSpec.ofChange fnBytCountSpec)

/-- ITS FALSE NEIGHBOUR: 'it returns false'. Refute it at one input. -/
def fnBytCountWrong : ChangeSpec := { name := "fnBytCount", fn := fun _ => fun
  | [d1, d2] => { results := [.lit (.bool false)], args := [d1, d2] }
  | _ => none }
def FnBytCountWrongFalsely : Prop := fnBytCountRow.holds Try.pinned (OpenSpec.ofChange fnBytCountWrong)

/- THE SECOND FORM. 'bulk': how many values and letters a reading holds, each counted each time it is reached (what is shared counts as often as it is met; a slice's spare places count too). A statement '..UptoSaid' is the law's where the arguments, and the package variables that the reading takes, are together of bulk at most 1048576: NARROWER than '..Said'. Prove '..Said' where nothing that the law and all that it calls make is longer than what came in: it says more and counts as full. Else prove '..UptoSaid'. A law counts once. -/
mutual
def uptoBulk {H : Type} : DataW H → Nat
  | .lit (.string bytes) => bytes.length + 1
  | .lit _ => 1
  | .nil => 1
  | .ptr d => uptoBulk d + 1
  | .slice elems spare => uptoBulkAll elems + uptoBulkAll spare + 1
  | .agg parts => uptoBulkAll parts + 1
  | .iface _ d => uptoBulk d + 1
  | .map entries => uptoBulkEntries entries + 1
  | .held _ => 1
def uptoBulkAll {H : Type} : List (DataW H) → Nat
  | [] => 0
  | d :: r => uptoBulk d + uptoBulkAll r
def uptoBulkEntries {H : Type} : List (Lit × DataW H) → Nat
  | [] => 0
  | x :: r => uptoBulkEntry x + uptoBulkEntries r
def uptoBulkEntry {H : Type} : Lit × DataW H → Nat
  | (.string bytes, d) => bytes.length + uptoBulk d + 1
  | (_, d) => uptoBulk d + 1
 end
def uptoSmall : (H : Type) → List (DataW H) → Bool := fun _ ds => decide (uptoBulkAll ds ≤ 1048576)
def OpenSpec.upto (s : _root_.Go.ChangeSpec) : _root_.Go.OpenSpec := { _root_.Go.OpenSpec.ofChange s with cond := some uptoSmall }

/-- 'laws.FnStrContainsRune', WHERE WHAT IT READS IS OF BULK AT MOST 1048576: true; the input reads as it did. -/
def fnStrContainsRuneUptoRow : OpenClaim := { program := "ytocegdangdcicaa", sum := "c45ca16d9c4d61b1ea76f5fe25c21b3d42ba71f569570ce8212e6d9df11ca420", func := "loop.example/pub-g01460/laws.FnStrContainsRune", spec := "fnStrContainsRune", apart := false, narrowed := true }
def FnStrContainsRuneUptoSaid : Prop := fnStrContainsRuneUptoRow.holds Try.pinned (OpenSpec.upto fnStrContainsRuneSpec)

/-- 'laws.FnStrContains', WHERE WHAT IT READS IS OF BULK AT MOST 1048576: true; the input reads as it did. -/
def fnStrContainsUptoRow : OpenClaim := { program := "ytocegdangdcicaa", sum := "c45ca16d9c4d61b1ea76f5fe25c21b3d42ba71f569570ce8212e6d9df11ca420", func := "loop.example/pub-g01460/laws.FnStrContains", spec := "fnStrContains", apart := false, narrowed := true }
def FnStrContainsUptoSaid : Prop := fnStrContainsUptoRow.holds Try.pinned (OpenSpec.upto fnStrContainsSpec)

/-- 'laws.FnStrCount', WHERE WHAT IT READS IS OF BULK AT MOST 1048576: true; the input reads as it did. -/
def fnStrCountUptoRow : OpenClaim := { program := "ytocegdangdcicaa", sum := "c45ca16d9c4d61b1ea76f5fe25c21b3d42ba71f569570ce8212e6d9df11ca420", func := "loop.example/pub-g01460/laws.FnStrCount", spec := "fnStrCount", apart := false, narrowed := true }
def FnStrCountUptoSaid : Prop := fnStrCountUptoRow.holds Try.pinned (OpenSpec.upto fnStrCountSpec)

/-- 'laws.FnIndexMade', WHERE WHAT IT READS IS OF BULK AT MOST 1048576: true; the input reads as it did. -/
def fnIndexMadeUptoRow : OpenClaim := { program := "ytocegdangdcicaa", sum := "c45ca16d9c4d61b1ea76f5fe25c21b3d42ba71f569570ce8212e6d9df11ca420", func := "loop.example/pub-g01460/laws.FnIndexMade", spec := "fnIndexMade", apart := false, narrowed := true }
def FnIndexMadeUptoSaid : Prop := fnIndexMadeUptoRow.holds Try.pinned (OpenSpec.upto fnIndexMadeSpec)

/-- 'laws.FnBytCount', WHERE WHAT IT READS IS OF BULK AT MOST 1048576: true; the input reads as it did. -/
def fnBytCountUptoRow : OpenClaim := { program := "ytocegdangdcicaa", sum := "c45ca16d9c4d61b1ea76f5fe25c21b3d42ba71f569570ce8212e6d9df11ca420", func := "loop.example/pub-g01460/laws.FnBytCount", spec := "fnBytCount", apart := false, narrowed := true }
def FnBytCountUptoSaid : Prop := fnBytCountUptoRow.holds Try.pinned (OpenSpec.upto fnBytCountSpec)

end Rows
end Go.Proofs.Ytocegdangdcicaa
