/-
  No cell of these rows narrows 'for every input' (looked for: loops, veiled, ifaces, maps, wideKeys, modest, calm, conditions, laid).
  DERIVED. THE GIVEN ROWS OF THIS SEAT. 2 by the template 'for every input the law returns true; each argument reads behind the call as it read before'; 0 by the template 'total and deterministic' (their statements: YtbpgeaaeghbniaaTotals.lean).
  GIVEN WITH THE SEED: the statements are not yours to turn. If you find one false, say at which input.
  Laid BY PROGRAM, IN A SANDBOX (cutbox-rows.mjs): the forced cells as the released guide's own fill.sh prints them over the translation df11e0551ed858fc… (all of the seat's roots in one cut). By AI agents, Wed Nov 11 2026. No macro, syntax, notation, axiom, sorry.
-/
import Derived.Test.YtbpgeaaeghbniaaChecked
import GoSem.Claim
import GoSem.ClaimJoined
import GoSem.ClaimMapViews
import Derived.JoinedTies
import Derived.KernelRfl
namespace Go.Proofs.Ytbpgeaaeghbniaa
/- THE CELL 'sum', in the pinned program and in every row, IS THE sha256 OF THE DUMP (.gsa) THAT YtbpgeaaeghbniaaProg.lean LOADS. Nothing in Lean hashes anything: it is a label: what it is worth is what the hold of that sum in a sandbox is worth. -/
noncomputable def Try.pinned : Pinned := { name := "ytbpgeaaeghbniaa", sum := "df11e0551ed858fc1ca4bda7f5033769f4e8e9e5eeaaf9d64fc36104af5b1e06", checked := Try.checked }
namespace Rows
def none {H : Type} : Left H := { results := [], args := [] }

/-- 'laws.FnStrJoin': WHATEVER THE INPUT: true; the input reads as it did. -/
def fnStrJoinSpec : ChangeSpec := { name := "fnStrJoin", fn := fun _ => fun
  | [d1, d2] => { results := [.lit (.bool true)], args := [d1, d2] }
  | _ => none }
def fnStrJoinRow : OpenClaim := { program := "ytbpgeaaeghbniaa", sum := "df11e0551ed858fc1ca4bda7f5033769f4e8e9e5eeaaf9d64fc36104af5b1e06", func := "loop.example/pub-g01460/laws.FnStrJoin", spec := "fnStrJoin", inPlace := ["internal/abi.NoEscape", "internal/bytealg.MakeNoZero"], apart := false }
def FnStrJoinSaid : Prop := fnStrJoinRow.holds Try.pinned (OpenSpec.ofChange fnStrJoinSpec)

/-- ITS FALSE NEIGHBOUR: 'it returns false'. Refute it at one input. -/
def fnStrJoinWrong : ChangeSpec := { name := "fnStrJoin", fn := fun _ => fun
  | [d1, d2] => { results := [.lit (.bool false)], args := [d1, d2] }
  | _ => none }
def FnStrJoinWrongFalsely : Prop := fnStrJoinRow.holds Try.pinned (OpenSpec.ofChange fnStrJoinWrong)

/-- 'laws.FnStrIndexError': WHATEVER THE INPUT: true; the input reads as it did. -/
def fnStrIndexErrorSpec : ChangeSpec := { name := "fnStrIndexError", fn := fun _ => fun
  | [d] => { results := [.lit (.bool true)], args := [d] }
  | _ => none }
def fnStrIndexErrorRow : OpenClaim := { program := "ytbpgeaaeghbniaa", sum := "df11e0551ed858fc1ca4bda7f5033769f4e8e9e5eeaaf9d64fc36104af5b1e06", func := "loop.example/pub-g01460/laws.FnStrIndexError", spec := "fnStrIndexError", apart := false }
def FnStrIndexErrorSaid : Prop := fnStrIndexErrorRow.holds Try.pinned (OpenSpec.ofChange fnStrIndexErrorSpec)

/-- ITS FALSE NEIGHBOUR: 'it returns false'. Refute it at one input. -/
def fnStrIndexErrorWrong : ChangeSpec := { name := "fnStrIndexError", fn := fun _ => fun
  | [d] => { results := [.lit (.bool false)], args := [d] }
  | _ => none }
def FnStrIndexErrorWrongFalsely : Prop := fnStrIndexErrorRow.holds Try.pinned (OpenSpec.ofChange fnStrIndexErrorWrong)

/- THE SECOND FORM. 'bulk': how many values and letters a reading holds, each counted each time it is reached (what is shared counts as often as it is met; a slice's spare places count too). A statement '..UptoSaid' is the law's where the arguments, and the package variables that the reading takes, are together of bulk at most 1048576: NARROWER than '..Said'. Prove '..Said' where nothing that the law and all that it calls make is longer than what came in: it says more and counts as full. Else prove '..UptoSaid'. A law counts once. -/
mutual
def uptoBulk {H : Type} : DataW H → Nat
  | .lit (.string bytes) => bytes.length + 1
  | .lit _ => 1
  | .nil => 1
  | .ptr d => uptoBulk d + 1
  | .slice elems spare => uptoBulkAll elems + uptoBulkAll spare + 1
  | .agg parts => uptoBulkAll parts + 1
  | .iface _ d => uptoBulk d + 1
  | .map entries => uptoBulkEntries entries + 1
  | .held _ => 1
def uptoBulkAll {H : Type} : List (DataW H) → Nat
  | [] => 0
  | d :: r => uptoBulk d + uptoBulkAll r
def uptoBulkEntries {H : Type} : List (Lit × DataW H) → Nat
  | [] => 0
  | x :: r => uptoBulkEntry x + uptoBulkEntries r
def uptoBulkEntry {H : Type} : Lit × DataW H → Nat
  | (.string bytes, d) => bytes.length + uptoBulk d + 1
  | (_, d) => uptoBulk d + 1
 end
def uptoSmall : (H : Type) → List (DataW H) → Bool := fun _ ds => decide (uptoBulkAll ds ≤ 1048576)
def OpenSpec.upto (s : _root_.Go.ChangeSpec) : _root_.Go.OpenSpec := { _root_.Go.OpenSpec.ofChange s with cond := some uptoSmall }

/-- 'laws.FnStrJoin', WHERE WHAT IT READS IS OF BULK AT MOST 1048576: true; the input reads as it did. -/
def fnStrJoinUptoRow : OpenClaim := { program := "ytbpgeaaeghbniaa", sum := "df11e0551ed858fc1ca4bda7f5033769f4e8e9e5eeaaf9d64fc36104af5b1e06", func := "loop.example/pub-g01460/laws.FnStrJoin", spec := "fnStrJoin", inPlace := ["internal/abi.NoEscape", "internal/bytealg.MakeNoZero"], apart := false, narrowed := true }
def FnStrJoinUptoSaid : Prop := fnStrJoinUptoRow.holds Try.pinned (OpenSpec.upto fnStrJoinSpec)

/-- 'laws.FnStrIndexError', WHERE WHAT IT READS IS OF BULK AT MOST 1048576: true; the input reads as it did. -/
def fnStrIndexErrorUptoRow : OpenClaim := { program := "ytbpgeaaeghbniaa", sum := "df11e0551ed858fc1ca4bda7f5033769f4e8e9e5eeaaf9d64fc36104af5b1e06", func := "loop.example/pub-g01460/laws.FnStrIndexError", spec := "fnStrIndexError", apart := false, narrowed := true }
def FnStrIndexErrorUptoSaid : Prop := fnStrIndexErrorUptoRow.holds Try.pinned (OpenSpec.upto fnStrIndexErrorSpec)

end Rows
end Go.Proofs.Ytbpgeaaeghbniaa
