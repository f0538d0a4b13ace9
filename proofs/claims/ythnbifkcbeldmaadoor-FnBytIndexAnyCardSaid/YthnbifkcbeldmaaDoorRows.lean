/-
  NARROWER THAN 'FOR EVERY INPUT', by the rows' own cells (each row's printed sentence says how): FnBytTrim: laid · FnStrLastIndexAny: laid · FnStrReplace: laid · FnStrFieldsSeq: laid · FnStrSplitAfterSeq: laid · FnBytReplace: laid · FnStrTrim: laid · FnTrimTwice: laid · FnFieldsTrimmed: laid · FnBytSplitAll: laid · FnBytIndexAny: laid.
  DERIVED. THE GIVEN ROWS OF THIS SEAT. 11 by the template 'for every input the law returns true; each argument reads behind the call as it read before'; 0 by the template 'total and deterministic' (their statements: YthnbifkcbeldmaaDoorTotals.lean).
  GIVEN WITH THE SEED: the statements are not yours to turn. If you find one false, say at which input.
  Laid BY PROGRAM, IN A SANDBOX (cutbox-rows.mjs): the forced cells as the released guide's own fill.sh prints them over the translation 5821fd404faccc5c… (all of the seat's roots in one cut). By AI agents, Wed Nov 11 2026. No macro, syntax, notation, axiom, sorry.
-/
import Derived.Test.YthnbifkcbeldmaaDoorChecked
import GoSem.PinnedTables
import GoSem.Claim
import GoSem.ClaimJoined
import GoSem.ClaimMapViews
import Derived.JoinedTies
import Derived.KernelRfl
namespace Go.Proofs.YthnbifkcbeldmaaDoor
/- THE CELL 'sum', in the pinned program and in every row, IS THE sha256 OF THE DUMP (.gsa) THAT YthnbifkcbeldmaaDoorProg.lean LOADS. Nothing in Lean hashes anything: it is a label: what it is worth is what the hold of that sum in a sandbox is worth. -/
noncomputable def Tryd.pinned : Pinned := { name := "ythnbifkcbeldmaadoor", sum := "5821fd404faccc5c3dadac26f3f681bcacb59f00ae200fb2e7e6e97938ceb0f6", checked := Tryd.checked }
namespace Rows
def none {H : Type} : Left H := { results := [], args := [] }

/- WHAT THE LISTED PACKAGE-LEVEL VARIABLES READ AS WHEN THE CALL BEGINS. Each datum BY PROGRAM (the guide's laid-datum.mjs) off the statement by which the dump's own 'gosem.cut.vars' lays the variable. In a bare row this is a premise. The card (YthnbifkcbeldmaaDoorCards.lean) ties it to the program's text. -/
def laid_unicode_utf8_acceptRanges {H : Type} : DataW H := .agg [.agg [.lit (.int .u8 128), .lit (.int .u8 191)], .agg [.lit (.int .u8 160), .lit (.int .u8 191)], .agg [.lit (.int .u8 128), .lit (.int .u8 159)], .agg [.lit (.int .u8 144), .lit (.int .u8 191)], .agg [.lit (.int .u8 128), .lit (.int .u8 143)], .agg [.lit (.int .u8 0), .lit (.int .u8 0)], .agg [.lit (.int .u8 0), .lit (.int .u8 0)], .agg [.lit (.int .u8 0), .lit (.int .u8 0)], .agg [.lit (.int .u8 0), .lit (.int .u8 0)], .agg [.lit (.int .u8 0), .lit (.int .u8 0)], .agg [.lit (.int .u8 0), .lit (.int .u8 0)], .agg [.lit (.int .u8 0), .lit (.int .u8 0)], .agg [.lit (.int .u8 0), .lit (.int .u8 0)], .agg [.lit (.int .u8 0), .lit (.int .u8 0)], .agg [.lit (.int .u8 0), .lit (.int .u8 0)], .agg [.lit (.int .u8 0), .lit (.int .u8 0)]]
/-- One of Go's own tables, pinned by name: the form's constant. -/
def laid_unicode_utf8_first : DataW Unit := Go.Pinned.utf8First
def laid_unicode_White_Space {H : Type} : DataW H := .ptr (.agg [.slice [.agg [.lit (.int .u16 9), .lit (.int .u16 13), .lit (.int .u16 1)], .agg [.lit (.int .u16 32), .lit (.int .u16 133), .lit (.int .u16 101)], .agg [.lit (.int .u16 160), .lit (.int .u16 5760), .lit (.int .u16 5600)], .agg [.lit (.int .u16 8192), .lit (.int .u16 8202), .lit (.int .u16 1)], .agg [.lit (.int .u16 8232), .lit (.int .u16 8233), .lit (.int .u16 1)], .agg [.lit (.int .u16 8239), .lit (.int .u16 8287), .lit (.int .u16 48)], .agg [.lit (.int .u16 12288), .lit (.int .u16 12288), .lit (.int .u16 1)]] [], .nil, .lit (.int .i64 2)])
def laid_loop_example_pub_g01460_pub_gostrings_asciiSpace {H : Type} : DataW H := .agg [.lit (.int .u8 0), .lit (.int .u8 0), .lit (.int .u8 0), .lit (.int .u8 0), .lit (.int .u8 0), .lit (.int .u8 0), .lit (.int .u8 0), .lit (.int .u8 0), .lit (.int .u8 0), .lit (.int .u8 1), .lit (.int .u8 1), .lit (.int .u8 1), .lit (.int .u8 1), .lit (.int .u8 1), .lit (.int .u8 0), .lit (.int .u8 0), .lit (.int .u8 0), .lit (.int .u8 0), .lit (.int .u8 0), .lit (.int .u8 0), .lit (.int .u8 0), .lit (.int .u8 0), .lit (.int .u8 0), .lit (.int .u8 0), .lit (.int .u8 0), .lit (.int .u8 0), .lit (.int .u8 0), .lit (.int .u8 0), .lit (.int .u8 0), .lit (.int .u8 0), .lit (.int .u8 0), .lit (.int .u8 0), .lit (.int .u8 1), .lit (.int .u8 0), .lit (.int .u8 0), .lit (.int .u8 0), .lit (.int .u8 0), .lit (.int .u8 0), .lit (.int .u8 0), .lit (.int .u8 0), .lit (.int .u8 0), .lit (.int .u8 0), .lit (.int .u8 0), .lit (.int .u8 0), .lit (.int .u8 0), .lit (.int .u8 0), .lit (.int .u8 0), .lit (.int .u8 0), .lit (.int .u8 0), .lit (.int .u8 0), .lit (.int .u8 0), .lit (.int .u8 0), .lit (.int .u8 0), .lit (.int .u8 0), .lit (.int .u8 0), .lit (.int .u8 0), .lit (.int .u8 0), .lit (.int .u8 0), .lit (.int .u8 0), .lit (.int .u8 0), .lit (.int .u8 0), .lit (.int .u8 0), .lit (.int .u8 0), .lit (.int .u8 0), .lit (.int .u8 0), .lit (.int .u8 0), .lit (.int .u8 0), .lit (.int .u8 0), .lit (.int .u8 0), .lit (.int .u8 0), .lit (.int .u8 0), .lit (.int .u8 0), .lit (.int .u8 0), .lit (.int .u8 0), .lit (.int .u8 0), .lit (.int .u8 0), .lit (.int .u8 0), .lit (.int .u8 0), .lit (.int .u8 0), .lit (.int .u8 0), .lit (.int .u8 0), .lit (.int .u8 0), .lit (.int .u8 0), .lit (.int .u8 0), .lit (.int .u8 0), .lit (.int .u8 0), .lit (.int .u8 0), .lit (.int .u8 0), .lit (.int .u8 0), .lit (.int .u8 0), .lit (.int .u8 0), .lit (.int .u8 0), .lit (.int .u8 0), .lit (.int .u8 0), .lit (.int .u8 0), .lit (.int .u8 0), .lit (.int .u8 0), .lit (.int .u8 0), .lit (.int .u8 0), .lit (.int .u8 0), .lit (.int .u8 0), .lit (.int .u8 0), .lit (.int .u8 0), .lit (.int .u8 0), .lit (.int .u8 0), .lit (.int .u8 0), .lit (.int .u8 0), .lit (.int .u8 0), .lit (.int .u8 0), .lit (.int .u8 0), .lit (.int .u8 0), .lit (.int .u8 0), .lit (.int .u8 0), .lit (.int .u8 0), .lit (.int .u8 0), .lit (.int .u8 0), .lit (.int .u8 0), .lit (.int .u8 0), .lit (.int .u8 0), .lit (.int .u8 0), .lit (.int .u8 0), .lit (.int .u8 0), .lit (.int .u8 0), .lit (.int .u8 0), .lit (.int .u8 0), .lit (.int .u8 0), .lit (.int .u8 0), .lit (.int .u8 0), .lit (.int .u8 0), .lit (.int .u8 0), .lit (.int .u8 0), .lit (.int .u8 0), .lit (.int .u8 0), .lit (.int .u8 0), .lit (.int .u8 0), .lit (.int .u8 0), .lit (.int .u8 0), .lit (.int .u8 0), .lit (.int .u8 0), .lit (.int .u8 0), .lit (.int .u8 0), .lit (.int .u8 0), .lit (.int .u8 0), .lit (.int .u8 0), .lit (.int .u8 0), .lit (.int .u8 0), .lit (.int .u8 0), .lit (.int .u8 0), .lit (.int .u8 0), .lit (.int .u8 0), .lit (.int .u8 0), .lit (.int .u8 0), .lit (.int .u8 0), .lit (.int .u8 0), .lit (.int .u8 0), .lit (.int .u8 0), .lit (.int .u8 0), .lit (.int .u8 0), .lit (.int .u8 0), .lit (.int .u8 0), .lit (.int .u8 0), .lit (.int .u8 0), .lit (.int .u8 0), .lit (.int .u8 0), .lit (.int .u8 0), .lit (.int .u8 0), .lit (.int .u8 0), .lit (.int .u8 0), .lit (.int .u8 0), .lit (.int .u8 0), .lit (.int .u8 0), .lit (.int .u8 0), .lit (.int .u8 0), .lit (.int .u8 0), .lit (.int .u8 0), .lit (.int .u8 0), .lit (.int .u8 0), .lit (.int .u8 0), .lit (.int .u8 0), .lit (.int .u8 0), .lit (.int .u8 0), .lit (.int .u8 0), .lit (.int .u8 0), .lit (.int .u8 0), .lit (.int .u8 0), .lit (.int .u8 0), .lit (.int .u8 0), .lit (.int .u8 0), .lit (.int .u8 0), .lit (.int .u8 0), .lit (.int .u8 0), .lit (.int .u8 0), .lit (.int .u8 0), .lit (.int .u8 0), .lit (.int .u8 0), .lit (.int .u8 0), .lit (.int .u8 0), .lit (.int .u8 0), .lit (.int .u8 0), .lit (.int .u8 0), .lit (.int .u8 0), .lit (.int .u8 0), .lit (.int .u8 0), .lit (.int .u8 0), .lit (.int .u8 0), .lit (.int .u8 0), .lit (.int .u8 0), .lit (.int .u8 0), .lit (.int .u8 0), .lit (.int .u8 0), .lit (.int .u8 0), .lit (.int .u8 0), .lit (.int .u8 0), .lit (.int .u8 0), .lit (.int .u8 0), .lit (.int .u8 0), .lit (.int .u8 0), .lit (.int .u8 0), .lit (.int .u8 0), .lit (.int .u8 0), .lit (.int .u8 0), .lit (.int .u8 0), .lit (.int .u8 0), .lit (.int .u8 0), .lit (.int .u8 0), .lit (.int .u8 0), .lit (.int .u8 0), .lit (.int .u8 0), .lit (.int .u8 0), .lit (.int .u8 0), .lit (.int .u8 0), .lit (.int .u8 0), .lit (.int .u8 0), .lit (.int .u8 0), .lit (.int .u8 0), .lit (.int .u8 0), .lit (.int .u8 0), .lit (.int .u8 0), .lit (.int .u8 0), .lit (.int .u8 0), .lit (.int .u8 0), .lit (.int .u8 0), .lit (.int .u8 0), .lit (.int .u8 0), .lit (.int .u8 0), .lit (.int .u8 0), .lit (.int .u8 0), .lit (.int .u8 0), .lit (.int .u8 0), .lit (.int .u8 0), .lit (.int .u8 0), .lit (.int .u8 0), .lit (.int .u8 0), .lit (.int .u8 0), .lit (.int .u8 0), .lit (.int .u8 0)]

/-- 'laws.FnBytTrim': WHATEVER THE INPUT: true; the input reads as it did. -/
def fnBytTrimSpec : ChangeSpec := { name := "fnBytTrim", fn := fun _ => fun
  | [d1, d2] => { results := [.lit (.bool true)], args := [d1, d2] }
  | _ => none }
def fnBytTrimRow : OpenClaim := { program := "ythnbifkcbeldmaadoor", sum := "5821fd404faccc5c3dadac26f3f681bcacb59f00ae200fb2e7e6e97938ceb0f6", func := "loop.example/pub-g01460/laws.FnBytTrim", spec := "fnBytTrim", named := ["unicode/utf8.first", "unicode/utf8.acceptRanges"], apart := false, laid := [("unicode/utf8.acceptRanges", laid_unicode_utf8_acceptRanges), ("unicode/utf8.first", laid_unicode_utf8_first)] }
def FnBytTrimSaid : Prop := fnBytTrimRow.holds Tryd.pinned (OpenSpec.ofChange fnBytTrimSpec)

/-- ITS FALSE NEIGHBOUR: 'it returns false'. Refute it at one input. -/
def fnBytTrimWrong : ChangeSpec := { name := "fnBytTrim", fn := fun _ => fun
  | [d1, d2] => { results := [.lit (.bool false)], args := [d1, d2] }
  | _ => none }
def FnBytTrimWrongFalsely : Prop := fnBytTrimRow.holds Tryd.pinned (OpenSpec.ofChange fnBytTrimWrong)

/-- 'laws.FnStrLastIndexAny': WHATEVER THE INPUT: true; the input reads as it did. -/
def fnStrLastIndexAnySpec : ChangeSpec := { name := "fnStrLastIndexAny", fn := fun _ => fun
  | [d1, d2] => { results := [.lit (.bool true)], args := [d1, d2] }
  | _ => none }
def fnStrLastIndexAnyRow : OpenClaim := { program := "ythnbifkcbeldmaadoor", sum := "5821fd404faccc5c3dadac26f3f681bcacb59f00ae200fb2e7e6e97938ceb0f6", func := "loop.example/pub-g01460/laws.FnStrLastIndexAny", spec := "fnStrLastIndexAny", named := ["unicode/utf8.first", "unicode/utf8.acceptRanges"], apart := false, laid := [("unicode/utf8.acceptRanges", laid_unicode_utf8_acceptRanges), ("unicode/utf8.first", laid_unicode_utf8_first)] }
def FnStrLastIndexAnySaid : Prop := fnStrLastIndexAnyRow.holds Tryd.pinned (OpenSpec.ofChange fnStrLastIndexAnySpec)

/-- ITS FALSE NEIGHBOUR: 'it returns false'. Refute it at one input. -/
def fnStrLastIndexAnyWrong : ChangeSpec := { name := "fnStrLastIndexAny", fn := fun _ => fun
  | [d1, d2] => { results := [.lit (.bool false)], args := [d1, d2] }
  | _ => none }
def FnStrLastIndexAnyWrongFalsely : Prop := fnStrLastIndexAnyRow.holds Tryd.pinned (OpenSpec.ofChange fnStrLastIndexAnyWrong)

/-- 'laws.FnStrReplace': WHATEVER THE INPUT: true; the input reads as it did. -/
def fnStrReplaceSpec : ChangeSpec := { name := "fnStrReplace", fn := fun _ => fun
  | [d1, d2, d3, d4] => { results := [.lit (.bool true)], args := [d1, d2, d3, d4] }
  | _ => none }
def fnStrReplaceRow : OpenClaim := { program := "ythnbifkcbeldmaadoor", sum := "5821fd404faccc5c3dadac26f3f681bcacb59f00ae200fb2e7e6e97938ceb0f6", func := "loop.example/pub-g01460/laws.FnStrReplace", spec := "fnStrReplace", inPlace := ["internal/abi.NoEscape", "internal/bytealg.MakeNoZero"], named := ["unicode/utf8.first", "unicode/utf8.acceptRanges"], apart := false, laid := [("unicode/utf8.acceptRanges", laid_unicode_utf8_acceptRanges), ("unicode/utf8.first", laid_unicode_utf8_first)] }
def FnStrReplaceSaid : Prop := fnStrReplaceRow.holds Tryd.pinned (OpenSpec.ofChange fnStrReplaceSpec)

/-- ITS FALSE NEIGHBOUR: 'it returns false'. Refute it at one input. -/
def fnStrReplaceWrong : ChangeSpec := { name := "fnStrReplace", fn := fun _ => fun
  | [d1, d2, d3, d4] => { results := [.lit (.bool false)], args := [d1, d2, d3, d4] }
  | _ => none }
def FnStrReplaceWrongFalsely : Prop := fnStrReplaceRow.holds Tryd.pinned (OpenSpec.ofChange fnStrReplaceWrong)

/-- 'laws.FnStrFieldsSeq': WHATEVER THE INPUT: true; the input reads as it did. -/
def fnStrFieldsSeqSpec : ChangeSpec := { name := "fnStrFieldsSeq", vars := ["loop.example/pub-g01460/pub/gostrings.asciiSpace"], fn := fun _ => fun
  | [d, g1] => { results := [.lit (.bool true)], args := [d], vars := [g1] }
  | _ => none }
def fnStrFieldsSeqRow : OpenClaim := { program := "ythnbifkcbeldmaadoor", sum := "5821fd404faccc5c3dadac26f3f681bcacb59f00ae200fb2e7e6e97938ceb0f6", func := "loop.example/pub-g01460/laws.FnStrFieldsSeq", spec := "fnStrFieldsSeq", unfollowed := true, recurses := true, named := ["loop.example/pub-g01460/pub/gostrings.asciiSpace", "unicode/utf8.first", "unicode/utf8.acceptRanges", "unicode.White_Space"], apart := false, laid := [("unicode/utf8.acceptRanges", laid_unicode_utf8_acceptRanges), ("unicode.White_Space", laid_unicode_White_Space), ("loop.example/pub-g01460/pub/gostrings.asciiSpace", laid_loop_example_pub_g01460_pub_gostrings_asciiSpace), ("unicode/utf8.first", laid_unicode_utf8_first)] }
def FnStrFieldsSeqSaid : Prop := fnStrFieldsSeqRow.holds Tryd.pinned (OpenSpec.ofChange fnStrFieldsSeqSpec)

/-- ITS FALSE NEIGHBOUR: 'it returns false'. Refute it at one input. -/
def fnStrFieldsSeqWrong : ChangeSpec := { name := "fnStrFieldsSeq", vars := ["loop.example/pub-g01460/pub/gostrings.asciiSpace"], fn := fun _ => fun
  | [d, g1] => { results := [.lit (.bool false)], args := [d], vars := [g1] }
  | _ => none }
def FnStrFieldsSeqWrongFalsely : Prop := fnStrFieldsSeqRow.holds Tryd.pinned (OpenSpec.ofChange fnStrFieldsSeqWrong)

/-- 'laws.FnStrSplitAfterSeq': WHATEVER THE INPUT: true; the input reads as it did. -/
def fnStrSplitAfterSeqSpec : ChangeSpec := { name := "fnStrSplitAfterSeq", fn := fun _ => fun
  | [d1, d2] => { results := [.lit (.bool true)], args := [d1, d2] }
  | _ => none }
def fnStrSplitAfterSeqRow : OpenClaim := { program := "ythnbifkcbeldmaadoor", sum := "5821fd404faccc5c3dadac26f3f681bcacb59f00ae200fb2e7e6e97938ceb0f6", func := "loop.example/pub-g01460/laws.FnStrSplitAfterSeq", spec := "fnStrSplitAfterSeq", unfollowed := true, recurses := true, named := ["unicode/utf8.first", "unicode/utf8.acceptRanges"], apart := false, laid := [("unicode/utf8.acceptRanges", laid_unicode_utf8_acceptRanges), ("unicode/utf8.first", laid_unicode_utf8_first)] }
def FnStrSplitAfterSeqSaid : Prop := fnStrSplitAfterSeqRow.holds Tryd.pinned (OpenSpec.ofChange fnStrSplitAfterSeqSpec)

/-- ITS FALSE NEIGHBOUR: 'it returns false'. Refute it at one input. -/
def fnStrSplitAfterSeqWrong : ChangeSpec := { name := "fnStrSplitAfterSeq", fn := fun _ => fun
  | [d1, d2] => { results := [.lit (.bool false)], args := [d1, d2] }
  | _ => none }
def FnStrSplitAfterSeqWrongFalsely : Prop := fnStrSplitAfterSeqRow.holds Tryd.pinned (OpenSpec.ofChange fnStrSplitAfterSeqWrong)

/-- 'laws.FnBytReplace': WHATEVER THE INPUT: true; the input reads as it did. -/
def fnBytReplaceSpec : ChangeSpec := { name := "fnBytReplace", fn := fun _ => fun
  | [d1, d2, d3, d4] => { results := [.lit (.bool true)], args := [d1, d2, d3, d4] }
  | _ => none }
def fnBytReplaceRow : OpenClaim := { program := "ythnbifkcbeldmaadoor", sum := "5821fd404faccc5c3dadac26f3f681bcacb59f00ae200fb2e7e6e97938ceb0f6", func := "loop.example/pub-g01460/laws.FnBytReplace", spec := "fnBytReplace", named := ["unicode/utf8.first", "unicode/utf8.acceptRanges"], apart := false, laid := [("unicode/utf8.acceptRanges", laid_unicode_utf8_acceptRanges), ("unicode/utf8.first", laid_unicode_utf8_first)] }
def FnBytReplaceSaid : Prop := fnBytReplaceRow.holds Tryd.pinned (OpenSpec.ofChange fnBytReplaceSpec)

/-- ITS FALSE NEIGHBOUR: 'it returns false'. Refute it at one input. -/
def fnBytReplaceWrong : ChangeSpec := { name := "fnBytReplace", fn := fun _ => fun
  | [d1, d2, d3, d4] => { results := [.lit (.bool false)], args := [d1, d2, d3, d4] }
  | _ => none }
def FnBytReplaceWrongFalsely : Prop := fnBytReplaceRow.holds Tryd.pinned (OpenSpec.ofChange fnBytReplaceWrong)

/-- 'laws.FnStrTrim': WHATEVER THE INPUT: true; the input reads as it did. -/
def fnStrTrimSpec : ChangeSpec := { name := "fnStrTrim", fn := fun _ => fun
  | [d1, d2] => { results := [.lit (.bool true)], args := [d1, d2] }
  | _ => none }
def fnStrTrimRow : OpenClaim := { program := "ythnbifkcbeldmaadoor", sum := "5821fd404faccc5c3dadac26f3f681bcacb59f00ae200fb2e7e6e97938ceb0f6", func := "loop.example/pub-g01460/laws.FnStrTrim", spec := "fnStrTrim", named := ["unicode/utf8.first", "unicode/utf8.acceptRanges"], apart := false, laid := [("unicode/utf8.acceptRanges", laid_unicode_utf8_acceptRanges), ("unicode/utf8.first", laid_unicode_utf8_first)] }
def FnStrTrimSaid : Prop := fnStrTrimRow.holds Tryd.pinned (OpenSpec.ofChange fnStrTrimSpec)

/-- ITS FALSE NEIGHBOUR: 'it returns false'. Refute it at one input. -/
def fnStrTrimWrong : ChangeSpec := { name := "fnStrTrim", fn := fun _ => fun
  | [d1, d2] => { results := [.lit (.bool false)], args := [d1, d2] }
  | _ => none }
def FnStrTrimWrongFalsely : Prop := fnStrTrimRow.holds Tryd.pinned (OpenSpec.ofChange fnStrTrimWrong)

/-- 'laws.FnTrimTwice': WHATEVER THE INPUT: true; the input reads as it did. -/
def fnTrimTwiceSpec : ChangeSpec := { name := "fnTrimTwice", fn := fun _ => fun
  | [d1, d2] => { results := [.lit (.bool true)], args := [d1, d2] }
  | _ => none }
def fnTrimTwiceRow : OpenClaim := { program := "ythnbifkcbeldmaadoor", sum := "5821fd404faccc5c3dadac26f3f681bcacb59f00ae200fb2e7e6e97938ceb0f6", func := "loop.example/pub-g01460/laws.FnTrimTwice", spec := "fnTrimTwice", named := ["unicode/utf8.first", "unicode/utf8.acceptRanges"], apart := false, laid := [("unicode/utf8.acceptRanges", laid_unicode_utf8_acceptRanges), ("unicode/utf8.first", laid_unicode_utf8_first)] }
def FnTrimTwiceSaid : Prop := fnTrimTwiceRow.holds Tryd.pinned (OpenSpec.ofChange fnTrimTwiceSpec)

/-- ITS FALSE NEIGHBOUR: 'it returns false'. Refute it at one input. -/
def fnTrimTwiceWrong : ChangeSpec := { name := "fnTrimTwice", fn := fun _ => fun
  | [d1, d2] => { results := [.lit (.bool false)], args := [d1, d2] }
  | _ => none }
def FnTrimTwiceWrongFalsely : Prop := fnTrimTwiceRow.holds Tryd.pinned (OpenSpec.ofChange fnTrimTwiceWrong)

/-- 'laws.FnFieldsTrimmed': WHATEVER THE INPUT: true; the input reads as it did. -/
def fnFieldsTrimmedSpec : ChangeSpec := { name := "fnFieldsTrimmed", vars := ["loop.example/pub-g01460/pub/gostrings.asciiSpace"], fn := fun _ => fun
  | [d, g1] => { results := [.lit (.bool true)], args := [d], vars := [g1] }
  | _ => none }
def fnFieldsTrimmedRow : OpenClaim := { program := "ythnbifkcbeldmaadoor", sum := "5821fd404faccc5c3dadac26f3f681bcacb59f00ae200fb2e7e6e97938ceb0f6", func := "loop.example/pub-g01460/laws.FnFieldsTrimmed", spec := "fnFieldsTrimmed", unfollowed := true, recurses := true, named := ["loop.example/pub-g01460/pub/gostrings.asciiSpace", "unicode/utf8.first", "unicode/utf8.acceptRanges", "unicode.White_Space"], apart := false, laid := [("unicode/utf8.acceptRanges", laid_unicode_utf8_acceptRanges), ("unicode.White_Space", laid_unicode_White_Space), ("loop.example/pub-g01460/pub/gostrings.asciiSpace", laid_loop_example_pub_g01460_pub_gostrings_asciiSpace), ("unicode/utf8.first", laid_unicode_utf8_first)] }
def FnFieldsTrimmedSaid : Prop := fnFieldsTrimmedRow.holds Tryd.pinned (OpenSpec.ofChange fnFieldsTrimmedSpec)

/-- ITS FALSE NEIGHBOUR: 'it returns false'. Refute it at one input. -/
def fnFieldsTrimmedWrong : ChangeSpec := { name := "fnFieldsTrimmed", vars := ["loop.example/pub-g01460/pub/gostrings.asciiSpace"], fn := fun _ => fun
  | [d, g1] => { results := [.lit (.bool false)], args := [d], vars := [g1] }
  | _ => none }
def FnFieldsTrimmedWrongFalsely : Prop := fnFieldsTrimmedRow.holds Tryd.pinned (OpenSpec.ofChange fnFieldsTrimmedWrong)

/-- 'laws.FnBytSplitAll': WHATEVER THE INPUT: true; the input reads as it did. -/
def fnBytSplitAllSpec : ChangeSpec := { name := "fnBytSplitAll", fn := fun _ => fun
  | [d1, d2] => { results := [.lit (.bool true)], args := [d1, d2] }
  | _ => none }
def fnBytSplitAllRow : OpenClaim := { program := "ythnbifkcbeldmaadoor", sum := "5821fd404faccc5c3dadac26f3f681bcacb59f00ae200fb2e7e6e97938ceb0f6", func := "loop.example/pub-g01460/laws.FnBytSplitAll", spec := "fnBytSplitAll", unfollowed := true, recurses := true, named := ["unicode/utf8.first", "unicode/utf8.acceptRanges"], apart := false, laid := [("unicode/utf8.acceptRanges", laid_unicode_utf8_acceptRanges), ("unicode/utf8.first", laid_unicode_utf8_first)] }
def FnBytSplitAllSaid : Prop := fnBytSplitAllRow.holds Tryd.pinned (OpenSpec.ofChange fnBytSplitAllSpec)

/-- ITS FALSE NEIGHBOUR: 'it returns false'. Refute it at one input. -/
def fnBytSplitAllWrong : ChangeSpec := { name := "fnBytSplitAll", fn := fun _ => fun
  | [d1, d2] => { results := [.lit (.bool false)], args := [d1, d2] }
  | _ => none }
def FnBytSplitAllWrongFalsely : Prop := fnBytSplitAllRow.holds Tryd.pinned (OpenSpec.ofChange fnBytSplitAllWrong)

/-- 'laws.FnBytIndexAny': WHATEVER THE INPUT: true; the input reads as it did. -/
def fnBytIndexAnySpec : ChangeSpec := { name := "fnBytIndexAny", fn := fun _ => fun
  | [d1, d2] => { results := [.lit (.bool true)], args := [d1, d2] }
  | _ => none }
def fnBytIndexAnyRow : OpenClaim := { program := "ythnbifkcbeldmaadoor", sum := "5821fd404faccc5c3dadac26f3f681bcacb59f00ae200fb2e7e6e97938ceb0f6", func := "loop.example/pub-g01460/laws.FnBytIndexAny", spec := "fnBytIndexAny", named := ["unicode/utf8.first", "unicode/utf8.acceptRanges"], apart := false, laid := [("unicode/utf8.acceptRanges", laid_unicode_utf8_acceptRanges), ("unicode/utf8.first", laid_unicode_utf8_first)] }
def FnBytIndexAnySaid : Prop := fnBytIndexAnyRow.holds Tryd.pinned (OpenSpec.ofChange fnBytIndexAnySpec)

/-- ITS FALSE NEIGHBOUR: 'it returns false'. Refute it at one input. -/
def fnBytIndexAnyWrong : ChangeSpec := { name := "fnBytIndexAny", fn := fun _ => fun
  | [d1, d2] => { results := [.lit (.bool false)], args := [d1, d2] }
  | _ => none }
def FnBytIndexAnyWrongFalsely : Prop := fnBytIndexAnyRow.holds Tryd.pinned (OpenSpec.ofChange fnBytIndexAnyWrong)

/- THE SECOND FORM. 'bulk': how many values and letters a reading holds, each counted each time it is reached (what is shared counts as often as it is met; a slice's spare places count too). A statement '..UptoSaid' is the law's where the arguments, and the package variables that the reading takes, are together of bulk at most 1048576: NARROWER than '..Said'. Prove '..Said' where nothing that the law and all that it calls make is longer than what came in: it says more and counts as full. Else prove '..UptoSaid'. A law counts once. -/
mutual
def uptoBulk {H : Type} : DataW H → Nat
  | .lit (.string bytes) => bytes.length + 1
  | .lit _ => 1
  | .nil => 1
  | .ptr d => uptoBulk d + 1
  | .slice elems spare => uptoBulkAll elems + uptoBulkAll spare + 1
  | .agg parts => uptoBulkAll parts + 1
  | .iface _ d => uptoBulk d + 1
  | .map entries => uptoBulkEntries entries + 1
  | .held _ => 1
def uptoBulkAll {H : Type} : List (DataW H) → Nat
  | [] => 0
  | d :: r => uptoBulk d + uptoBulkAll r
def uptoBulkEntries {H : Type} : List (Lit × DataW H) → Nat
  | [] => 0
  | x :: r => uptoBulkEntry x + uptoBulkEntries r
def uptoBulkEntry {H : Type} : Lit × DataW H → Nat
  | (.string bytes, d) => bytes.length + uptoBulk d + 1
  | (_, d) => uptoBulk d + 1
 end
def uptoSmall : (H : Type) → List (DataW H) → Bool := fun _ ds => decide (uptoBulkAll ds ≤ 1048576)
def OpenSpec.upto (s : _root_.Go.ChangeSpec) : _root_.Go.OpenSpec := { _root_.Go.OpenSpec.ofChange s with cond := some uptoSmall }

/-- 'laws.FnBytTrim', WHERE WHAT IT READS IS OF BULK AT MOST 1048576: true; the input reads as it did. -/
def fnBytTrimUptoRow : OpenClaim := { program := "ythnbifkcbeldmaadoor", sum := "5821fd404faccc5c3dadac26f3f681bcacb59f00ae200fb2e7e6e97938ceb0f6", func := "loop.example/pub-g01460/laws.FnBytTrim", spec := "fnBytTrim", named := ["unicode/utf8.first", "unicode/utf8.acceptRanges"], apart := false, laid := [("unicode/utf8.acceptRanges", laid_unicode_utf8_acceptRanges), ("unicode/utf8.first", laid_unicode_utf8_first)], narrowed := true }
def FnBytTrimUptoSaid : Prop := fnBytTrimUptoRow.holds Tryd.pinned (OpenSpec.upto fnBytTrimSpec)

/-- 'laws.FnStrLastIndexAny', WHERE WHAT IT READS IS OF BULK AT MOST 1048576: true; the input reads as it did. -/
def fnStrLastIndexAnyUptoRow : OpenClaim := { program := "ythnbifkcbeldmaadoor", sum := "5821fd404faccc5c3dadac26f3f681bcacb59f00ae200fb2e7e6e97938ceb0f6", func := "loop.example/pub-g01460/laws.FnStrLastIndexAny", spec := "fnStrLastIndexAny", named := ["unicode/utf8.first", "unicode/utf8.acceptRanges"], apart := false, laid := [("unicode/utf8.acceptRanges", laid_unicode_utf8_acceptRanges), ("unicode/utf8.first", laid_unicode_utf8_first)], narrowed := true }
def FnStrLastIndexAnyUptoSaid : Prop := fnStrLastIndexAnyUptoRow.holds Tryd.pinned (OpenSpec.upto fnStrLastIndexAnySpec)

/-- 'laws.FnStrReplace', WHERE WHAT IT READS IS OF BULK AT MOST 1048576: true; the input reads as it did. -/
def fnStrReplaceUptoRow : OpenClaim := { program := "ythnbifkcbeldmaadoor", sum := "5821fd404faccc5c3dadac26f3f681bcacb59f00ae200fb2e7e6e97938ceb0f6", func := "loop.example/pub-g01460/laws.FnStrReplace", spec := "fnStrReplace", inPlace := ["internal/abi.NoEscape", "internal/bytealg.MakeNoZero"], named := ["unicode/utf8.first", "unicode/utf8.acceptRanges"], apart := false, laid := [("unicode/utf8.acceptRanges", laid_unicode_utf8_acceptRanges), ("unicode/utf8.first", laid_unicode_utf8_first)], narrowed := true }
def FnStrReplaceUptoSaid : Prop := fnStrReplaceUptoRow.holds Tryd.pinned (OpenSpec.upto fnStrReplaceSpec)

/-- 'laws.FnStrFieldsSeq', WHERE WHAT IT READS IS OF BULK AT MOST 1048576: true; the input reads as it did. -/
def fnStrFieldsSeqUptoRow : OpenClaim := { program := "ythnbifkcbeldmaadoor", sum := "5821fd404faccc5c3dadac26f3f681bcacb59f00ae200fb2e7e6e97938ceb0f6", func := "loop.example/pub-g01460/laws.FnStrFieldsSeq", spec := "fnStrFieldsSeq", unfollowed := true, recurses := true, named := ["loop.example/pub-g01460/pub/gostrings.asciiSpace", "unicode/utf8.first", "unicode/utf8.acceptRanges", "unicode.White_Space"], apart := false, laid := [("unicode/utf8.acceptRanges", laid_unicode_utf8_acceptRanges), ("unicode.White_Space", laid_unicode_White_Space), ("loop.example/pub-g01460/pub/gostrings.asciiSpace", laid_loop_example_pub_g01460_pub_gostrings_asciiSpace), ("unicode/utf8.first", laid_unicode_utf8_first)], narrowed := true }
def FnStrFieldsSeqUptoSaid : Prop := fnStrFieldsSeqUptoRow.holds Tryd.pinned (OpenSpec.upto fnStrFieldsSeqSpec)

/-- 'laws.FnStrSplitAfterSeq', WHERE WHAT IT READS IS OF BULK AT MOST 1048576: true; the input reads as it did. -/
def fnStrSplitAfterSeqUptoRow : OpenClaim := { program := "ythnbifkcbeldmaadoor", sum := "5821fd404faccc5c3dadac26f3f681bcacb59f00ae200fb2e7e6e97938ceb0f6", func := "loop.example/pub-g01460/laws.FnStrSplitAfterSeq", spec := "fnStrSplitAfterSeq", unfollowed := true, recurses := true, named := ["unicode/utf8.first", "unicode/utf8.acceptRanges"], apart := false, laid := [("unicode/utf8.acceptRanges", laid_unicode_utf8_acceptRanges), ("unicode/utf8.first", laid_unicode_utf8_first)], narrowed := true }
def FnStrSplitAfterSeqUptoSaid : Prop := fnStrSplitAfterSeqUptoRow.holds Tryd.pinned (OpenSpec.upto fnStrSplitAfterSeqSpec)

/-- 'laws.FnBytReplace', WHERE WHAT IT READS IS OF BULK AT MOST 1048576: true; the input reads as it did. -/
def fnBytReplaceUptoRow : OpenClaim := { program := "ythnbifkcbeldmaadoor", sum := "5821fd404faccc5c3dadac26f3f681bcacb59f00ae200fb2e7e6e97938ceb0f6", func := "loop.example/pub-g01460/laws.FnBytReplace", spec := "fnBytReplace", named := ["unicode/utf8.first", "unicode/utf8.acceptRanges"], apart := false, laid := [("unicode/utf8.acceptRanges", laid_unicode_utf8_acceptRanges), ("unicode/utf8.first", laid_unicode_utf8_first)], narrowed := true }
def FnBytReplaceUptoSaid : Prop := fnBytReplaceUptoRow.holds Tryd.pinned (OpenSpec.upto fnBytReplaceSpec)

/-- 'laws.FnStrTrim', WHERE WHAT IT READS IS OF BULK AT MOST 1048576: true; the input reads as it did. -/
def fnStrTrimUptoRow : OpenClaim := { program := "ythnbifkcbeldmaadoor", sum := "5821fd404faccc5c3dadac26f3f681bcacb59f00ae200fb2e7e6e97938ceb0f6", func := "loop.example/pub-g01460/laws.FnStrTrim", spec := "fnStrTrim", named := ["unicode/utf8.first", "unicode/utf8.acceptRanges"], apart := false, laid := [("unicode/utf8.acceptRanges", laid_unicode_utf8_acceptRanges), ("unicode/utf8.first", laid_unicode_utf8_first)], narrowed := true }
def FnStrTrimUptoSaid : Prop := fnStrTrimUptoRow.holds Tryd.pinned (OpenSpec.upto fnStrTrimSpec)

/-- 'laws.FnTrimTwice', WHERE WHAT IT READS IS OF BULK AT MOST 1048576: true; the input reads as it did. -/
def fnTrimTwiceUptoRow : OpenClaim := { program := "ythnbifkcbeldmaadoor", sum := "5821fd404faccc5c3dadac26f3f681bcacb59f00ae200fb2e7e6e97938ceb0f6", func := "loop.example/pub-g01460/laws.FnTrimTwice", spec := "fnTrimTwice", named := ["unicode/utf8.first", "unicode/utf8.acceptRanges"], apart := false, laid := [("unicode/utf8.acceptRanges", laid_unicode_utf8_acceptRanges), ("unicode/utf8.first", laid_unicode_utf8_first)], narrowed := true }
def FnTrimTwiceUptoSaid : Prop := fnTrimTwiceUptoRow.holds Tryd.pinned (OpenSpec.upto fnTrimTwiceSpec)

/-- 'laws.FnFieldsTrimmed', WHERE WHAT IT READS IS OF BULK AT MOST 1048576: true; the input reads as it did. -/
def fnFieldsTrimmedUptoRow : OpenClaim := { program := "ythnbifkcbeldmaadoor", sum := "5821fd404faccc5c3dadac26f3f681bcacb59f00ae200fb2e7e6e97938ceb0f6", func := "loop.example/pub-g01460/laws.FnFieldsTrimmed", spec := "fnFieldsTrimmed", unfollowed := true, recurses := true, named := ["loop.example/pub-g01460/pub/gostrings.asciiSpace", "unicode/utf8.first", "unicode/utf8.acceptRanges", "unicode.White_Space"], apart := false, laid := [("unicode/utf8.acceptRanges", laid_unicode_utf8_acceptRanges), ("unicode.White_Space", laid_unicode_White_Space), ("loop.example/pub-g01460/pub/gostrings.asciiSpace", laid_loop_example_pub_g01460_pub_gostrings_asciiSpace), ("unicode/utf8.first", laid_unicode_utf8_first)], narrowed := true }
def FnFieldsTrimmedUptoSaid : Prop := fnFieldsTrimmedUptoRow.holds Tryd.pinned (OpenSpec.upto fnFieldsTrimmedSpec)

/-- 'laws.FnBytSplitAll', WHERE WHAT IT READS IS OF BULK AT MOST 1048576: true; the input reads as it did. -/
def fnBytSplitAllUptoRow : OpenClaim := { program := "ythnbifkcbeldmaadoor", sum := "5821fd404faccc5c3dadac26f3f681bcacb59f00ae200fb2e7e6e97938ceb0f6", func := "loop.example/pub-g01460/laws.FnBytSplitAll", spec := "fnBytSplitAll", unfollowed := true, recurses := true, named := ["unicode/utf8.first", "unicode/utf8.acceptRanges"], apart := false, laid := [("unicode/utf8.acceptRanges", laid_unicode_utf8_acceptRanges), ("unicode/utf8.first", laid_unicode_utf8_first)], narrowed := true }
def FnBytSplitAllUptoSaid : Prop := fnBytSplitAllUptoRow.holds Tryd.pinned (OpenSpec.upto fnBytSplitAllSpec)

/-- 'laws.FnBytIndexAny', WHERE WHAT IT READS IS OF BULK AT MOST 1048576: true; the input reads as it did. -/
def fnBytIndexAnyUptoRow : OpenClaim := { program := "ythnbifkcbeldmaadoor", sum := "5821fd404faccc5c3dadac26f3f681bcacb59f00ae200fb2e7e6e97938ceb0f6", func := "loop.example/pub-g01460/laws.FnBytIndexAny", spec := "fnBytIndexAny", named := ["unicode/utf8.first", "unicode/utf8.acceptRanges"], apart := false, laid := [("unicode/utf8.acceptRanges", laid_unicode_utf8_acceptRanges), ("unicode/utf8.first", laid_unicode_utf8_first)], narrowed := true }
def FnBytIndexAnyUptoSaid : Prop := fnBytIndexAnyUptoRow.holds Tryd.pinned (OpenSpec.upto fnBytIndexAnySpec)

end Rows
end Go.Proofs.YthnbifkcbeldmaaDoor
