/-
  DERIVED. GIVEN WITH THE SEED: THE CARDS: each row of YthnbifkcbeldmaaDoorRows.lean that lists a variable, with what it lists TIED to the program's text (the seventh form; the later family's looks); each row that meets fmt, with fmt's text TOLD by the authors' own Lean function (tested against real Go, not proved from fmt's source: count such statements apart). THE CARD IS WHAT COUNTS. Prove the row's statement (the work); the ties are given (YthnbifkcbeldmaaDoorTie.lean); close each card by the builder's one call (the guide's Derived/Test/ToyasCard.lean, 'card_holds'). Laid BY PROGRAM, IN A SANDBOX (cutbox-door.mjs). By AI agents, Wed Nov 11 2026. No macro, syntax, notation, axiom, sorry.
-/
import Derived.Test.YthnbifkcbeldmaaDoorRows
import GoSem.ClaimSeven
namespace Go.Proofs.YthnbifkcbeldmaaDoor
namespace Rows

/-- THE TIED CARD OF 'laws.FnBytTrim'. -/
def fnBytTrimCard : Claim7 := { stood := { row := fnBytTrimRow, standIns := [], harness := (true, "3d11b3a0cf66abe2342cc4a219fce7c87b29d6f222a5e403453c11cf4f9b02b9"), looks := false }, kinds := [], alts := [], laidByText := true, laidKinds := [.data, .pinned], laidTests := true, laidLooks := .later }
def FnBytTrimCardSaid : Prop := Claim7.holds Tryd.pinned (.plain (OpenSpec.ofChange fnBytTrimSpec)) fnBytTrimCard

/-- THE TIED CARD OF 'laws.FnStrLastIndexAny'. -/
def fnStrLastIndexAnyCard : Claim7 := { stood := { row := fnStrLastIndexAnyRow, standIns := [], harness := (true, "3d11b3a0cf66abe2342cc4a219fce7c87b29d6f222a5e403453c11cf4f9b02b9"), looks := false }, kinds := [], alts := [], laidByText := true, laidKinds := [.data, .pinned], laidTests := true, laidLooks := .later }
def FnStrLastIndexAnyCardSaid : Prop := Claim7.holds Tryd.pinned (.plain (OpenSpec.ofChange fnStrLastIndexAnySpec)) fnStrLastIndexAnyCard

/-- THE TIED CARD OF 'laws.FnStrReplace'. -/
def fnStrReplaceCard : Claim7 := { stood := { row := fnStrReplaceRow, standIns := [], harness := (true, "3d11b3a0cf66abe2342cc4a219fce7c87b29d6f222a5e403453c11cf4f9b02b9"), looks := false }, kinds := [], alts := [], laidByText := true, laidKinds := [.data, .pinned], laidTests := true, laidLooks := .later }
def FnStrReplaceCardSaid : Prop := Claim7.holds Tryd.pinned (.plain (OpenSpec.ofChange fnStrReplaceSpec)) fnStrReplaceCard

/-- THE TIED CARD OF 'laws.FnStrFieldsSeq'. -/
def fnStrFieldsSeqCard : Claim7 := { stood := { row := fnStrFieldsSeqRow, standIns := [], harness := (true, "3d11b3a0cf66abe2342cc4a219fce7c87b29d6f222a5e403453c11cf4f9b02b9"), looks := false }, kinds := [], alts := [], laidByText := true, laidKinds := [.data, .listed, .data, .pinned], laidTests := true, laidLooks := .later }
def FnStrFieldsSeqCardSaid : Prop := Claim7.holds Tryd.pinned (.plain (OpenSpec.ofChange fnStrFieldsSeqSpec)) fnStrFieldsSeqCard

/-- THE TIED CARD OF 'laws.FnStrSplitAfterSeq'. -/
def fnStrSplitAfterSeqCard : Claim7 := { stood := { row := fnStrSplitAfterSeqRow, standIns := [], harness := (true, "3d11b3a0cf66abe2342cc4a219fce7c87b29d6f222a5e403453c11cf4f9b02b9"), looks := false }, kinds := [], alts := [], laidByText := true, laidKinds := [.data, .pinned], laidTests := true, laidLooks := .later }
def FnStrSplitAfterSeqCardSaid : Prop := Claim7.holds Tryd.pinned (.plain (OpenSpec.ofChange fnStrSplitAfterSeqSpec)) fnStrSplitAfterSeqCard

/-- THE TIED CARD OF 'laws.FnBytReplace'. -/
def fnBytReplaceCard : Claim7 := { stood := { row := fnBytReplaceRow, standIns := [], harness := (true, "3d11b3a0cf66abe2342cc4a219fce7c87b29d6f222a5e403453c11cf4f9b02b9"), looks := false }, kinds := [], alts := [], laidByText := true, laidKinds := [.data, .pinned], laidTests := true, laidLooks := .later }
def FnBytReplaceCardSaid : Prop := Claim7.holds Tryd.pinned (.plain (OpenSpec.ofChange fnBytReplaceSpec)) fnBytReplaceCard

/-- THE TIED CARD OF 'laws.FnStrTrim'. -/
def fnStrTrimCard : Claim7 := { stood := { row := fnStrTrimRow, standIns := [], harness := (true, "3d11b3a0cf66abe2342cc4a219fce7c87b29d6f222a5e403453c11cf4f9b02b9"), looks := false }, kinds := [], alts := [], laidByText := true, laidKinds := [.data, .pinned], laidTests := true, laidLooks := .later }
def FnStrTrimCardSaid : Prop := Claim7.holds Tryd.pinned (.plain (OpenSpec.ofChange fnStrTrimSpec)) fnStrTrimCard

/-- THE TIED CARD OF 'laws.FnTrimTwice'. -/
def fnTrimTwiceCard : Claim7 := { stood := { row := fnTrimTwiceRow, standIns := [], harness := (true, "3d11b3a0cf66abe2342cc4a219fce7c87b29d6f222a5e403453c11cf4f9b02b9"), looks := false }, kinds := [], alts := [], laidByText := true, laidKinds := [.data, .pinned], laidTests := true, laidLooks := .later }
def FnTrimTwiceCardSaid : Prop := Claim7.holds Tryd.pinned (.plain (OpenSpec.ofChange fnTrimTwiceSpec)) fnTrimTwiceCard

/-- THE TIED CARD OF 'laws.FnFieldsTrimmed'. -/
def fnFieldsTrimmedCard : Claim7 := { stood := { row := fnFieldsTrimmedRow, standIns := [], harness := (true, "3d11b3a0cf66abe2342cc4a219fce7c87b29d6f222a5e403453c11cf4f9b02b9"), looks := false }, kinds := [], alts := [], laidByText := true, laidKinds := [.data, .listed, .data, .pinned], laidTests := true, laidLooks := .later }
def FnFieldsTrimmedCardSaid : Prop := Claim7.holds Tryd.pinned (.plain (OpenSpec.ofChange fnFieldsTrimmedSpec)) fnFieldsTrimmedCard

/-- THE TIED CARD OF 'laws.FnBytSplitAll'. -/
def fnBytSplitAllCard : Claim7 := { stood := { row := fnBytSplitAllRow, standIns := [], harness := (true, "3d11b3a0cf66abe2342cc4a219fce7c87b29d6f222a5e403453c11cf4f9b02b9"), looks := false }, kinds := [], alts := [], laidByText := true, laidKinds := [.data, .pinned], laidTests := true, laidLooks := .later }
def FnBytSplitAllCardSaid : Prop := Claim7.holds Tryd.pinned (.plain (OpenSpec.ofChange fnBytSplitAllSpec)) fnBytSplitAllCard

/-- THE TIED CARD OF 'laws.FnBytIndexAny'. -/
def fnBytIndexAnyCard : Claim7 := { stood := { row := fnBytIndexAnyRow, standIns := [], harness := (true, "3d11b3a0cf66abe2342cc4a219fce7c87b29d6f222a5e403453c11cf4f9b02b9"), looks := false }, kinds := [], alts := [], laidByText := true, laidKinds := [.data, .pinned], laidTests := true, laidLooks := .later }
def FnBytIndexAnyCardSaid : Prop := Claim7.holds Tryd.pinned (.plain (OpenSpec.ofChange fnBytIndexAnySpec)) fnBytIndexAnyCard

/-- THE SECOND FORM's CARD OF 'laws.FnBytTrim'. -/
def fnBytTrimUptoCard : Claim7 := { stood := { row := fnBytTrimUptoRow, standIns := [], harness := (true, "3d11b3a0cf66abe2342cc4a219fce7c87b29d6f222a5e403453c11cf4f9b02b9"), looks := false }, kinds := [], alts := [], laidByText := true, laidKinds := [.data, .pinned], laidTests := true, laidLooks := .later }
def FnBytTrimUptoCardSaid : Prop := Claim7.holds Tryd.pinned (.plain (OpenSpec.upto fnBytTrimSpec)) fnBytTrimUptoCard

/-- THE SECOND FORM's CARD OF 'laws.FnStrLastIndexAny'. -/
def fnStrLastIndexAnyUptoCard : Claim7 := { stood := { row := fnStrLastIndexAnyUptoRow, standIns := [], harness := (true, "3d11b3a0cf66abe2342cc4a219fce7c87b29d6f222a5e403453c11cf4f9b02b9"), looks := false }, kinds := [], alts := [], laidByText := true, laidKinds := [.data, .pinned], laidTests := true, laidLooks := .later }
def FnStrLastIndexAnyUptoCardSaid : Prop := Claim7.holds Tryd.pinned (.plain (OpenSpec.upto fnStrLastIndexAnySpec)) fnStrLastIndexAnyUptoCard

/-- THE SECOND FORM's CARD OF 'laws.FnStrReplace'. -/
def fnStrReplaceUptoCard : Claim7 := { stood := { row := fnStrReplaceUptoRow, standIns := [], harness := (true, "3d11b3a0cf66abe2342cc4a219fce7c87b29d6f222a5e403453c11cf4f9b02b9"), looks := false }, kinds := [], alts := [], laidByText := true, laidKinds := [.data, .pinned], laidTests := true, laidLooks := .later }
def FnStrReplaceUptoCardSaid : Prop := Claim7.holds Tryd.pinned (.plain (OpenSpec.upto fnStrReplaceSpec)) fnStrReplaceUptoCard

/-- THE SECOND FORM's CARD OF 'laws.FnStrFieldsSeq'. -/
def fnStrFieldsSeqUptoCard : Claim7 := { stood := { row := fnStrFieldsSeqUptoRow, standIns := [], harness := (true, "3d11b3a0cf66abe2342cc4a219fce7c87b29d6f222a5e403453c11cf4f9b02b9"), looks := false }, kinds := [], alts := [], laidByText := true, laidKinds := [.data, .listed, .data, .pinned], laidTests := true, laidLooks := .later }
def FnStrFieldsSeqUptoCardSaid : Prop := Claim7.holds Tryd.pinned (.plain (OpenSpec.upto fnStrFieldsSeqSpec)) fnStrFieldsSeqUptoCard

/-- THE SECOND FORM's CARD OF 'laws.FnStrSplitAfterSeq'. -/
def fnStrSplitAfterSeqUptoCard : Claim7 := { stood := { row := fnStrSplitAfterSeqUptoRow, standIns := [], harness := (true, "3d11b3a0cf66abe2342cc4a219fce7c87b29d6f222a5e403453c11cf4f9b02b9"), looks := false }, kinds := [], alts := [], laidByText := true, laidKinds := [.data, .pinned], laidTests := true, laidLooks := .later }
def FnStrSplitAfterSeqUptoCardSaid : Prop := Claim7.holds Tryd.pinned (.plain (OpenSpec.upto fnStrSplitAfterSeqSpec)) fnStrSplitAfterSeqUptoCard

/-- THE SECOND FORM's CARD OF 'laws.FnBytReplace'. -/
def fnBytReplaceUptoCard : Claim7 := { stood := { row := fnBytReplaceUptoRow, standIns := [], harness := (true, "3d11b3a0cf66abe2342cc4a219fce7c87b29d6f222a5e403453c11cf4f9b02b9"), looks := false }, kinds := [], alts := [], laidByText := true, laidKinds := [.data, .pinned], laidTests := true, laidLooks := .later }
def FnBytReplaceUptoCardSaid : Prop := Claim7.holds Tryd.pinned (.plain (OpenSpec.upto fnBytReplaceSpec)) fnBytReplaceUptoCard

/-- THE SECOND FORM's CARD OF 'laws.FnStrTrim'. -/
def fnStrTrimUptoCard : Claim7 := { stood := { row := fnStrTrimUptoRow, standIns := [], harness := (true, "3d11b3a0cf66abe2342cc4a219fce7c87b29d6f222a5e403453c11cf4f9b02b9"), looks := false }, kinds := [], alts := [], laidByText := true, laidKinds := [.data, .pinned], laidTests := true, laidLooks := .later }
def FnStrTrimUptoCardSaid : Prop := Claim7.holds Tryd.pinned (.plain (OpenSpec.upto fnStrTrimSpec)) fnStrTrimUptoCard

/-- THE SECOND FORM's CARD OF 'laws.FnTrimTwice'. -/
def fnTrimTwiceUptoCard : Claim7 := { stood := { row := fnTrimTwiceUptoRow, standIns := [], harness := (true, "3d11b3a0cf66abe2342cc4a219fce7c87b29d6f222a5e403453c11cf4f9b02b9"), looks := false }, kinds := [], alts := [], laidByText := true, laidKinds := [.data, .pinned], laidTests := true, laidLooks := .later }
def FnTrimTwiceUptoCardSaid : Prop := Claim7.holds Tryd.pinned (.plain (OpenSpec.upto fnTrimTwiceSpec)) fnTrimTwiceUptoCard

/-- THE SECOND FORM's CARD OF 'laws.FnFieldsTrimmed'. -/
def fnFieldsTrimmedUptoCard : Claim7 := { stood := { row := fnFieldsTrimmedUptoRow, standIns := [], harness := (true, "3d11b3a0cf66abe2342cc4a219fce7c87b29d6f222a5e403453c11cf4f9b02b9"), looks := false }, kinds := [], alts := [], laidByText := true, laidKinds := [.data, .listed, .data, .pinned], laidTests := true, laidLooks := .later }
def FnFieldsTrimmedUptoCardSaid : Prop := Claim7.holds Tryd.pinned (.plain (OpenSpec.upto fnFieldsTrimmedSpec)) fnFieldsTrimmedUptoCard

/-- THE SECOND FORM's CARD OF 'laws.FnBytSplitAll'. -/
def fnBytSplitAllUptoCard : Claim7 := { stood := { row := fnBytSplitAllUptoRow, standIns := [], harness := (true, "3d11b3a0cf66abe2342cc4a219fce7c87b29d6f222a5e403453c11cf4f9b02b9"), looks := false }, kinds := [], alts := [], laidByText := true, laidKinds := [.data, .pinned], laidTests := true, laidLooks := .later }
def FnBytSplitAllUptoCardSaid : Prop := Claim7.holds Tryd.pinned (.plain (OpenSpec.upto fnBytSplitAllSpec)) fnBytSplitAllUptoCard

/-- THE SECOND FORM's CARD OF 'laws.FnBytIndexAny'. -/
def fnBytIndexAnyUptoCard : Claim7 := { stood := { row := fnBytIndexAnyUptoRow, standIns := [], harness := (true, "3d11b3a0cf66abe2342cc4a219fce7c87b29d6f222a5e403453c11cf4f9b02b9"), looks := false }, kinds := [], alts := [], laidByText := true, laidKinds := [.data, .pinned], laidTests := true, laidLooks := .later }
def FnBytIndexAnyUptoCardSaid : Prop := Claim7.holds Tryd.pinned (.plain (OpenSpec.upto fnBytIndexAnySpec)) fnBytIndexAnyUptoCard
end Rows
end Go.Proofs.YthnbifkcbeldmaaDoor
