/-
  NARROWER THAN 'FOR EVERY INPUT', by the rows' own cells (each row's printed sentence says how): FnStrLastIndexAny: laid · FnStrSplitAfter: laid · FnStrSplitAfterN: laid · FnSplitCount: laid · FnSplitPieces: laid · FnReplaceSame: laid · FnStrReplace: laid.
  DERIVED. THE GIVEN ROWS OF THIS SEAT. 7 by the template 'for every input the law returns true; each argument reads behind the call as it read before'; 0 by the template 'total and deterministic' (their statements: YtocegdangdcicaaDoorTotals.lean).
  GIVEN WITH THE SEED: the statements are not yours to turn. If you find one false, say at which input.
  Laid BY PROGRAM, IN A SANDBOX (cutbox-rows.mjs): the forced cells as the released guide's own fill.sh prints them over the translation 03c7971b43d8efb5… (all of the seat's roots in one cut). By AI agents, Wed Nov 11 2026. No macro, syntax, notation, axiom, sorry.
-/
import Derived.Test.YtocegdangdcicaaDoorChecked
import GoSem.PinnedTables
import GoSem.Claim
import GoSem.ClaimJoined
import GoSem.ClaimMapViews
import Derived.JoinedTies
import Derived.KernelRfl
namespace Go.Proofs.YtocegdangdcicaaDoor
/- THE CELL 'sum', in the pinned program and in every row, IS THE sha256 OF THE DUMP (.gsa) THAT YtocegdangdcicaaDoorProg.lean LOADS. Nothing in Lean hashes anything: it is a label: what it is worth is what the hold of that sum in a sandbox is worth. -/
noncomputable def Tryd.pinned : Pinned := { name := "ytocegdangdcicaadoor", sum := "03c7971b43d8efb55481e218780a4fc031802b5a2d1d49a37ce0a168be5d0230", checked := Tryd.checked }
namespace Rows
def none {H : Type} : Left H := { results := [], args := [] }

/- WHAT THE LISTED PACKAGE-LEVEL VARIABLES READ AS WHEN THE CALL BEGINS. Each datum BY PROGRAM (the guide's laid-datum.mjs) off the statement by which the dump's own 'gosem.cut.vars' lays the variable. In a bare row this is a premise. The card (YtocegdangdcicaaDoorCards.lean) ties it to the program's text. -/
def laid_unicode_utf8_acceptRanges {H : Type} : DataW H := .agg [.agg [.lit (.int .u8 128), .lit (.int .u8 191)], .agg [.lit (.int .u8 160), .lit (.int .u8 191)], .agg [.lit (.int .u8 128), .lit (.int .u8 159)], .agg [.lit (.int .u8 144), .lit (.int .u8 191)], .agg [.lit (.int .u8 128), .lit (.int .u8 143)], .agg [.lit (.int .u8 0), .lit (.int .u8 0)], .agg [.lit (.int .u8 0), .lit (.int .u8 0)], .agg [.lit (.int .u8 0), .lit (.int .u8 0)], .agg [.lit (.int .u8 0), .lit (.int .u8 0)], .agg [.lit (.int .u8 0), .lit (.int .u8 0)], .agg [.lit (.int .u8 0), .lit (.int .u8 0)], .agg [.lit (.int .u8 0), .lit (.int .u8 0)], .agg [.lit (.int .u8 0), .lit (.int .u8 0)], .agg [.lit (.int .u8 0), .lit (.int .u8 0)], .agg [.lit (.int .u8 0), .lit (.int .u8 0)], .agg [.lit (.int .u8 0), .lit (.int .u8 0)]]
/-- One of Go's own tables, pinned by name: the form's constant. -/
def laid_unicode_utf8_first : DataW Unit := Go.Pinned.utf8First

/-- 'laws.FnStrLastIndexAny': WHATEVER THE INPUT: true; the input reads as it did. -/
def fnStrLastIndexAnySpec : ChangeSpec := { name := "fnStrLastIndexAny", fn := fun _ => fun
  | [d1, d2] => { results := [.lit (.bool true)], args := [d1, d2] }
  | _ => none }
def fnStrLastIndexAnyRow : OpenClaim := { program := "ytocegdangdcicaadoor", sum := "03c7971b43d8efb55481e218780a4fc031802b5a2d1d49a37ce0a168be5d0230", func := "loop.example/pub-g01460/laws.FnStrLastIndexAny", spec := "fnStrLastIndexAny", named := ["unicode/utf8.first", "unicode/utf8.acceptRanges"], apart := false, laid := [("unicode/utf8.acceptRanges", laid_unicode_utf8_acceptRanges), ("unicode/utf8.first", laid_unicode_utf8_first)] }
def FnStrLastIndexAnySaid : Prop := fnStrLastIndexAnyRow.holds Tryd.pinned (OpenSpec.ofChange fnStrLastIndexAnySpec)

/-- ITS FALSE NEIGHBOUR: 'it returns false'. Refute it at one input. -/
def fnStrLastIndexAnyWrong : ChangeSpec := { name := "fnStrLastIndexAny", fn := fun _ => fun
  | [d1, d2] => { results := [.lit (.bool false)], args := [d1, d2] }
  | _ => none }
def FnStrLastIndexAnyWrongFalsely : Prop := fnStrLastIndexAnyRow.holds Tryd.pinned (OpenSpec.ofChange fnStrLastIndexAnyWrong)

/-- 'laws.FnStrSplitAfter': WHATEVER THE INPUT: true; the input reads as it did. -/
def fnStrSplitAfterSpec : ChangeSpec := { name := "fnStrSplitAfter", fn := fun _ => fun
  | [d1, d2] => { results := [.lit (.bool true)], args := [d1, d2] }
  | _ => none }
def fnStrSplitAfterRow : OpenClaim := { program := "ytocegdangdcicaadoor", sum := "03c7971b43d8efb55481e218780a4fc031802b5a2d1d49a37ce0a168be5d0230", func := "loop.example/pub-g01460/laws.FnStrSplitAfter", spec := "fnStrSplitAfter", named := ["unicode/utf8.first", "unicode/utf8.acceptRanges"], apart := false, laid := [("unicode/utf8.acceptRanges", laid_unicode_utf8_acceptRanges), ("unicode/utf8.first", laid_unicode_utf8_first)] }
def FnStrSplitAfterSaid : Prop := fnStrSplitAfterRow.holds Tryd.pinned (OpenSpec.ofChange fnStrSplitAfterSpec)

/-- ITS FALSE NEIGHBOUR: 'it returns false'. Refute it at one input. -/
def fnStrSplitAfterWrong : ChangeSpec := { name := "fnStrSplitAfter", fn := fun _ => fun
  | [d1, d2] => { results := [.lit (.bool false)], args := [d1, d2] }
  | _ => none }
def FnStrSplitAfterWrongFalsely : Prop := fnStrSplitAfterRow.holds Tryd.pinned (OpenSpec.ofChange fnStrSplitAfterWrong)

/-- 'laws.FnStrSplitAfterN': WHATEVER THE INPUT: true; the input reads as it did. -/
def fnStrSplitAfterNSpec : ChangeSpec := { name := "fnStrSplitAfterN", fn := fun _ => fun
  | [d1, d2, d3] => { results := [.lit (.bool true)], args := [d1, d2, d3] }
  | _ => none }
def fnStrSplitAfterNRow : OpenClaim := { program := "ytocegdangdcicaadoor", sum := "03c7971b43d8efb55481e218780a4fc031802b5a2d1d49a37ce0a168be5d0230", func := "loop.example/pub-g01460/laws.FnStrSplitAfterN", spec := "fnStrSplitAfterN", named := ["unicode/utf8.first", "unicode/utf8.acceptRanges"], apart := false, laid := [("unicode/utf8.acceptRanges", laid_unicode_utf8_acceptRanges), ("unicode/utf8.first", laid_unicode_utf8_first)] }
def FnStrSplitAfterNSaid : Prop := fnStrSplitAfterNRow.holds Tryd.pinned (OpenSpec.ofChange fnStrSplitAfterNSpec)

/-- ITS FALSE NEIGHBOUR: 'it returns false'. Refute it at one input. -/
def fnStrSplitAfterNWrong : ChangeSpec := { name := "fnStrSplitAfterN", fn := fun _ => fun
  | [d1, d2, d3] => { results := [.lit (.bool false)], args := [d1, d2, d3] }
  | _ => none }
def FnStrSplitAfterNWrongFalsely : Prop := fnStrSplitAfterNRow.holds Tryd.pinned (OpenSpec.ofChange fnStrSplitAfterNWrong)

/-- 'laws.FnSplitCount': WHATEVER THE INPUT: true; the input reads as it did. -/
def fnSplitCountSpec : ChangeSpec := { name := "fnSplitCount", fn := fun _ => fun
  | [d1, d2] => { results := [.lit (.bool true)], args := [d1, d2] }
  | _ => none }
def fnSplitCountRow : OpenClaim := { program := "ytocegdangdcicaadoor", sum := "03c7971b43d8efb55481e218780a4fc031802b5a2d1d49a37ce0a168be5d0230", func := "loop.example/pub-g01460/laws.FnSplitCount", spec := "fnSplitCount", named := ["unicode/utf8.first", "unicode/utf8.acceptRanges"], apart := false, laid := [("unicode/utf8.acceptRanges", laid_unicode_utf8_acceptRanges), ("unicode/utf8.first", laid_unicode_utf8_first)] }
def FnSplitCountSaid : Prop := fnSplitCountRow.holds Tryd.pinned (OpenSpec.ofChange fnSplitCountSpec)

/-- ITS FALSE NEIGHBOUR: 'it returns false'. Refute it at one input. -/
def fnSplitCountWrong : ChangeSpec := { name := "fnSplitCount", fn := fun _ => fun
  | [d1, d2] => { results := [.lit (.bool false)], args := [d1, d2] }
  | _ => none }
def FnSplitCountWrongFalsely : Prop := fnSplitCountRow.holds Tryd.pinned (OpenSpec.ofChange fnSplitCountWrong)

/-- 'laws.FnSplitPieces': WHATEVER THE INPUT: true; the input reads as it did. -/
def fnSplitPiecesSpec : ChangeSpec := { name := "fnSplitPieces", fn := fun _ => fun
  | [d1, d2] => { results := [.lit (.bool true)], args := [d1, d2] }
  | _ => none }
def fnSplitPiecesRow : OpenClaim := { program := "ytocegdangdcicaadoor", sum := "03c7971b43d8efb55481e218780a4fc031802b5a2d1d49a37ce0a168be5d0230", func := "loop.example/pub-g01460/laws.FnSplitPieces", spec := "fnSplitPieces", named := ["unicode/utf8.first", "unicode/utf8.acceptRanges"], apart := false, laid := [("unicode/utf8.acceptRanges", laid_unicode_utf8_acceptRanges), ("unicode/utf8.first", laid_unicode_utf8_first)] }
def FnSplitPiecesSaid : Prop := fnSplitPiecesRow.holds Tryd.pinned (OpenSpec.ofChange fnSplitPiecesSpec)

/-- ITS FALSE NEIGHBOUR: 'it returns false'. Refute it at one input. -/
def fnSplitPiecesWrong : ChangeSpec := { name := "fnSplitPieces", fn := fun _ => fun
  | [d1, d2] => { results := [.lit (.bool false)], args := [d1, d2] }
  | _ => none }
def FnSplitPiecesWrongFalsely : Prop := fnSplitPiecesRow.holds Tryd.pinned (OpenSpec.ofChange fnSplitPiecesWrong)

/-- 'laws.FnReplaceSame': WHATEVER THE INPUT: true; the input reads as it did. -/
def fnReplaceSameSpec : ChangeSpec := { name := "fnReplaceSame", fn := fun _ => fun
  | [d1, d2, d3] => { results := [.lit (.bool true)], args := [d1, d2, d3] }
  | _ => none }
def fnReplaceSameRow : OpenClaim := { program := "ytocegdangdcicaadoor", sum := "03c7971b43d8efb55481e218780a4fc031802b5a2d1d49a37ce0a168be5d0230", func := "loop.example/pub-g01460/laws.FnReplaceSame", spec := "fnReplaceSame", inPlace := ["internal/abi.NoEscape", "internal/bytealg.MakeNoZero"], named := ["unicode/utf8.first", "unicode/utf8.acceptRanges"], apart := false, laid := [("unicode/utf8.acceptRanges", laid_unicode_utf8_acceptRanges), ("unicode/utf8.first", laid_unicode_utf8_first)] }
def FnReplaceSameSaid : Prop := fnReplaceSameRow.holds Tryd.pinned (OpenSpec.ofChange fnReplaceSameSpec)

/-- ITS FALSE NEIGHBOUR: 'it returns false'. Refute it at one input. -/
def fnReplaceSameWrong : ChangeSpec := { name := "fnReplaceSame", fn := fun _ => fun
  | [d1, d2, d3] => { results := [.lit (.bool false)], args := [d1, d2, d3] }
  | _ => none }
def FnReplaceSameWrongFalsely : Prop := fnReplaceSameRow.holds Tryd.pinned (OpenSpec.ofChange fnReplaceSameWrong)

/-- 'laws.FnStrReplace': WHATEVER THE INPUT: true; the input reads as it did. -/
def fnStrReplaceSpec : ChangeSpec := { name := "fnStrReplace", fn := fun _ => fun
  | [d1, d2, d3, d4] => { results := [.lit (.bool true)], args := [d1, d2, d3, d4] }
  | _ => none }
def fnStrReplaceRow : OpenClaim := { program := "ytocegdangdcicaadoor", sum := "03c7971b43d8efb55481e218780a4fc031802b5a2d1d49a37ce0a168be5d0230", func := "loop.example/pub-g01460/laws.FnStrReplace", spec := "fnStrReplace", inPlace := ["internal/abi.NoEscape", "internal/bytealg.MakeNoZero"], named := ["unicode/utf8.first", "unicode/utf8.acceptRanges"], apart := false, laid := [("unicode/utf8.acceptRanges", laid_unicode_utf8_acceptRanges), ("unicode/utf8.first", laid_unicode_utf8_first)] }
def FnStrReplaceSaid : Prop := fnStrReplaceRow.holds Tryd.pinned (OpenSpec.ofChange fnStrReplaceSpec)

/-- ITS FALSE NEIGHBOUR: 'it returns false'. Refute it at one input. -/
def fnStrReplaceWrong : ChangeSpec := { name := "fnStrReplace", fn := fun _ => fun
  | [d1, d2, d3, d4] => { results := [.lit (.bool false)], args := [d1, d2, d3, d4] }
  | _ => none }
def FnStrReplaceWrongFalsely : Prop := fnStrReplaceRow.holds Tryd.pinned (OpenSpec.ofChange fnStrReplaceWrong)

/- THE SECOND FORM. 'bulk': how many values and letters a reading holds, each counted each time it is reached (what is shared counts as often as it is met; a slice's spare places count too). A statement '..UptoSaid' is the law's where the arguments, and the package variables that the reading takes, are together of bulk at most 1048576: NARROWER than '..Said'. Prove '..Said' where nothing that the law and all that it calls make is longer than what came in: it says more and counts as full. Else prove '..UptoSaid'. A law counts once. -/
mutual
def uptoBulk {H : Type} : DataW H → Nat
  | .lit (.string bytes) => bytes.length + 1
  | .lit _ => 1
  | .nil => 1
  | .ptr d => uptoBulk d + 1
  | .slice elems spare => uptoBulkAll elems + uptoBulkAll spare + 1
  | .agg parts => uptoBulkAll parts + 1
  | .iface _ d => uptoBulk d + 1
  | .map entries => uptoBulkEntries entries + 1
  | .held _ => 1
def uptoBulkAll {H : Type} : List (DataW H) → Nat
  | [] => 0
  | d :: r => uptoBulk d + uptoBulkAll r
def uptoBulkEntries {H : Type} : List (Lit × DataW H) → Nat
  | [] => 0
  | x :: r => uptoBulkEntry x + uptoBulkEntries r
def uptoBulkEntry {H : Type} : Lit × DataW H → Nat
  | (.string bytes, d) => bytes.length + uptoBulk d + 1
  | (_, d) => uptoBulk d + 1
 end
def uptoSmall : (H : Type) → List (DataW H) → Bool := fun _ ds => decide (uptoBulkAll ds ≤ 1048576)
def OpenSpec.upto (s : _root_.Go.ChangeSpec) : _root_.Go.OpenSpec := { _root_.Go.OpenSpec.ofChange s with cond := some uptoSmall }

/-- 'laws.FnStrLastIndexAny', WHERE WHAT IT READS IS OF BULK AT MOST 1048576: true; the input reads as it did. -/
def fnStrLastIndexAnyUptoRow : OpenClaim := { program := "ytocegdangdcicaadoor", sum := "03c7971b43d8efb55481e218780a4fc031802b5a2d1d49a37ce0a168be5d0230", func := "loop.example/pub-g01460/laws.FnStrLastIndexAny", spec := "fnStrLastIndexAny", named := ["unicode/utf8.first", "unicode/utf8.acceptRanges"], apart := false, laid := [("unicode/utf8.acceptRanges", laid_unicode_utf8_acceptRanges), ("unicode/utf8.first", laid_unicode_utf8_first)], narrowed := true }
def FnStrLastIndexAnyUptoSaid : Prop := fnStrLastIndexAnyUptoRow.holds Tryd.pinned (OpenSpec.upto fnStrLastIndexAnySpec)

/-- 'laws.FnStrSplitAfter', WHERE WHAT IT READS IS OF BULK AT MOST 1048576: true; the input reads as it did. -/
def fnStrSplitAfterUptoRow : OpenClaim := { program := "ytocegdangdcicaadoor", sum := "03c7971b43d8efb55481e218780a4fc031802b5a2d1d49a37ce0a168be5d0230", func := "loop.example/pub-g01460/laws.FnStrSplitAfter", spec := "fnStrSplitAfter", named := ["unicode/utf8.first", "unicode/utf8.acceptRanges"], apart := false, laid := [("unicode/utf8.acceptRanges", laid_unicode_utf8_acceptRanges), ("unicode/utf8.first", laid_unicode_utf8_first)], narrowed := true }
def FnStrSplitAfterUptoSaid : Prop := fnStrSplitAfterUptoRow.holds Tryd.pinned (OpenSpec.upto fnStrSplitAfterSpec)

/-- 'laws.FnStrSplitAfterN', WHERE WHAT IT READS IS OF BULK AT MOST 1048576: true; the input reads as it did. -/
def fnStrSplitAfterNUptoRow : OpenClaim := { program := "ytocegdangdcicaadoor", sum := "03c7971b43d8efb55481e218780a4fc031802b5a2d1d49a37ce0a168be5d0230", func := "loop.example/pub-g01460/laws.FnStrSplitAfterN", spec := "fnStrSplitAfterN", named := ["unicode/utf8.first", "unicode/utf8.acceptRanges"], apart := false, laid := [("unicode/utf8.acceptRanges", laid_unicode_utf8_acceptRanges), ("unicode/utf8.first", laid_unicode_utf8_first)], narrowed := true }
def FnStrSplitAfterNUptoSaid : Prop := fnStrSplitAfterNUptoRow.holds Tryd.pinned (OpenSpec.upto fnStrSplitAfterNSpec)

/-- 'laws.FnSplitCount', WHERE WHAT IT READS IS OF BULK AT MOST 1048576: true; the input reads as it did. -/
def fnSplitCountUptoRow : OpenClaim := { program := "ytocegdangdcicaadoor", sum := "03c7971b43d8efb55481e218780a4fc031802b5a2d1d49a37ce0a168be5d0230", func := "loop.example/pub-g01460/laws.FnSplitCount", spec := "fnSplitCount", named := ["unicode/utf8.first", "unicode/utf8.acceptRanges"], apart := false, laid := [("unicode/utf8.acceptRanges", laid_unicode_utf8_acceptRanges), ("unicode/utf8.first", laid_unicode_utf8_first)], narrowed := true }
def FnSplitCountUptoSaid : Prop := fnSplitCountUptoRow.holds Tryd.pinned (OpenSpec.upto fnSplitCountSpec)

/-- 'laws.FnSplitPieces', WHERE WHAT IT READS IS OF BULK AT MOST 1048576: true; the input reads as it did. -/
def fnSplitPiecesUptoRow : OpenClaim := { program := "ytocegdangdcicaadoor", sum := "03c7971b43d8efb55481e218780a4fc031802b5a2d1d49a37ce0a168be5d0230", func := "loop.example/pub-g01460/laws.FnSplitPieces", spec := "fnSplitPieces", named := ["unicode/utf8.first", "unicode/utf8.acceptRanges"], apart := false, laid := [("unicode/utf8.acceptRanges", laid_unicode_utf8_acceptRanges), ("unicode/utf8.first", laid_unicode_utf8_first)], narrowed := true }
def FnSplitPiecesUptoSaid : Prop := fnSplitPiecesUptoRow.holds Tryd.pinned (OpenSpec.upto fnSplitPiecesSpec)

/-- 'laws.FnReplaceSame', WHERE WHAT IT READS IS OF BULK AT MOST 1048576: true; the input reads as it did. -/
def fnReplaceSameUptoRow : OpenClaim := { program := "ytocegdangdcicaadoor", sum := "03c7971b43d8efb55481e218780a4fc031802b5a2d1d49a37ce0a168be5d0230", func := "loop.example/pub-g01460/laws.FnReplaceSame", spec := "fnReplaceSame", inPlace := ["internal/abi.NoEscape", "internal/bytealg.MakeNoZero"], named := ["unicode/utf8.first", "unicode/utf8.acceptRanges"], apart := false, laid := [("unicode/utf8.acceptRanges", laid_unicode_utf8_acceptRanges), ("unicode/utf8.first", laid_unicode_utf8_first)], narrowed := true }
def FnReplaceSameUptoSaid : Prop := fnReplaceSameUptoRow.holds Tryd.pinned (OpenSpec.upto fnReplaceSameSpec)

/-- 'laws.FnStrReplace', WHERE WHAT IT READS IS OF BULK AT MOST 1048576: true; the input reads as it did. -/
def fnStrReplaceUptoRow : OpenClaim := { program := "ytocegdangdcicaadoor", sum := "03c7971b43d8efb55481e218780a4fc031802b5a2d1d49a37ce0a168be5d0230", func := "loop.example/pub-g01460/laws.FnStrReplace", spec := "fnStrReplace", inPlace := ["internal/abi.NoEscape", "internal/bytealg.MakeNoZero"], named := ["unicode/utf8.first", "unicode/utf8.acceptRanges"], apart := false, laid := [("unicode/utf8.acceptRanges", laid_unicode_utf8_acceptRanges), ("unicode/utf8.first", laid_unicode_utf8_first)], narrowed := true }
def FnStrReplaceUptoSaid : Prop := fnStrReplaceUptoRow.holds Tryd.pinned (OpenSpec.upto fnStrReplaceSpec)

end Rows
end Go.Proofs.YtocegdangdcicaaDoor
