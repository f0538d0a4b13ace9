/-
  DERIVED. GIVEN WITH THE SEED: THE CARDS: each row of YtocegdangdcicaaDoorRows.lean that lists a variable, with what it lists TIED to the program's text (the seventh form; the later family's looks); each row that meets fmt, with fmt's text TOLD by the authors' own Lean function (tested against real Go, not proved from fmt's source: count such statements apart). THE CARD IS WHAT COUNTS. Prove the row's statement (the work); the ties are given (YtocegdangdcicaaDoorTie.lean); close each card by the builder's one call (the guide's Derived/Test/ToyasCard.lean, 'card_holds'). Laid BY PROGRAM, IN A SANDBOX (cutbox-door.mjs). By AI agents, Wed Nov 11 2026. No macro, syntax, notation, axiom, sorry.
-/
import Derived.Test.YtocegdangdcicaaDoorRows
import GoSem.ClaimSeven
namespace Go.Proofs.YtocegdangdcicaaDoor
namespace Rows

/-- THE TIED CARD OF 'laws.FnStrLastIndexAny'. -/
def fnStrLastIndexAnyCard : Claim7 := { stood := { row := fnStrLastIndexAnyRow, standIns := [], harness := (true, "0d9f33117a094614984ffbc63f79ff43e9dad72bdee86785e24a91b0e2d8d888"), looks := false }, kinds := [], alts := [], laidByText := true, laidKinds := [.data, .pinned], laidTests := true, laidLooks := .later }
def FnStrLastIndexAnyCardSaid : Prop := Claim7.holds Tryd.pinned (.plain (OpenSpec.ofChange fnStrLastIndexAnySpec)) fnStrLastIndexAnyCard

/-- THE TIED CARD OF 'laws.FnStrSplitAfter'. -/
def fnStrSplitAfterCard : Claim7 := { stood := { row := fnStrSplitAfterRow, standIns := [], harness := (true, "0d9f33117a094614984ffbc63f79ff43e9dad72bdee86785e24a91b0e2d8d888"), looks := false }, kinds := [], alts := [], laidByText := true, laidKinds := [.data, .pinned], laidTests := true, laidLooks := .later }
def FnStrSplitAfterCardSaid : Prop := Claim7.holds Tryd.pinned (.plain (OpenSpec.ofChange fnStrSplitAfterSpec)) fnStrSplitAfterCard

/-- THE TIED CARD OF 'laws.FnStrSplitAfterN'. -/
def fnStrSplitAfterNCard : Claim7 := { stood := { row := fnStrSplitAfterNRow, standIns := [], harness := (true, "0d9f33117a094614984ffbc63f79ff43e9dad72bdee86785e24a91b0e2d8d888"), looks := false }, kinds := [], alts := [], laidByText := true, laidKinds := [.data, .pinned], laidTests := true, laidLooks := .later }
def FnStrSplitAfterNCardSaid : Prop := Claim7.holds Tryd.pinned (.plain (OpenSpec.ofChange fnStrSplitAfterNSpec)) fnStrSplitAfterNCard

/-- THE TIED CARD OF 'laws.FnSplitCount'. -/
def fnSplitCountCard : Claim7 := { stood := { row := fnSplitCountRow, standIns := [], harness := (true, "0d9f33117a094614984ffbc63f79ff43e9dad72bdee86785e24a91b0e2d8d888"), looks := false }, kinds := [], alts := [], laidByText := true, laidKinds := [.data, .pinned], laidTests := true, laidLooks := .later }
def FnSplitCountCardSaid : Prop := Claim7.holds Tryd.pinned (.plain (OpenSpec.ofChange fnSplitCountSpec)) fnSplitCountCard

/-- THE TIED CARD OF 'laws.FnSplitPieces'. -/
def fnSplitPiecesCard : Claim7 := { stood := { row := fnSplitPiecesRow, standIns := [], harness := (true, "0d9f33117a094614984ffbc63f79ff43e9dad72bdee86785e24a91b0e2d8d888"), looks := false }, kinds := [], alts := [], laidByText := true, laidKinds := [.data, .pinned], laidTests := true, laidLooks := .later }
def FnSplitPiecesCardSaid : Prop := Claim7.holds Tryd.pinned (.plain (OpenSpec.ofChange fnSplitPiecesSpec)) fnSplitPiecesCard

/-- THE TIED CARD OF 'laws.FnReplaceSame'. -/
def fnReplaceSameCard : Claim7 := { stood := { row := fnReplaceSameRow, standIns := [], harness := (true, "0d9f33117a094614984ffbc63f79ff43e9dad72bdee86785e24a91b0e2d8d888"), looks := false }, kinds := [], alts := [], laidByText := true, laidKinds := [.data, .pinned], laidTests := true, laidLooks := .later }
def FnReplaceSameCardSaid : Prop := Claim7.holds Tryd.pinned (.plain (OpenSpec.ofChange fnReplaceSameSpec)) fnReplaceSameCard

/-- THE TIED CARD OF 'laws.FnStrReplace'. -/
def fnStrReplaceCard : Claim7 := { stood := { row := fnStrReplaceRow, standIns := [], harness := (true, "0d9f33117a094614984ffbc63f79ff43e9dad72bdee86785e24a91b0e2d8d888"), looks := false }, kinds := [], alts := [], laidByText := true, laidKinds := [.data, .pinned], laidTests := true, laidLooks := .later }
def FnStrReplaceCardSaid : Prop := Claim7.holds Tryd.pinned (.plain (OpenSpec.ofChange fnStrReplaceSpec)) fnStrReplaceCard

/-- THE SECOND FORM's CARD OF 'laws.FnStrLastIndexAny'. -/
def fnStrLastIndexAnyUptoCard : Claim7 := { stood := { row := fnStrLastIndexAnyUptoRow, standIns := [], harness := (true, "0d9f33117a094614984ffbc63f79ff43e9dad72bdee86785e24a91b0e2d8d888"), looks := false }, kinds := [], alts := [], laidByText := true, laidKinds := [.data, .pinned], laidTests := true, laidLooks := .later }
def FnStrLastIndexAnyUptoCardSaid : Prop := Claim7.holds Tryd.pinned (.plain (OpenSpec.upto fnStrLastIndexAnySpec)) fnStrLastIndexAnyUptoCard

/-- THE SECOND FORM's CARD OF 'laws.FnStrSplitAfter'. -/
def fnStrSplitAfterUptoCard : Claim7 := { stood := { row := fnStrSplitAfterUptoRow, standIns := [], harness := (true, "0d9f33117a094614984ffbc63f79ff43e9dad72bdee86785e24a91b0e2d8d888"), looks := false }, kinds := [], alts := [], laidByText := true, laidKinds := [.data, .pinned], laidTests := true, laidLooks := .later }
def FnStrSplitAfterUptoCardSaid : Prop := Claim7.holds Tryd.pinned (.plain (OpenSpec.upto fnStrSplitAfterSpec)) fnStrSplitAfterUptoCard

/-- THE SECOND FORM's CARD OF 'laws.FnStrSplitAfterN'. -/
def fnStrSplitAfterNUptoCard : Claim7 := { stood := { row := fnStrSplitAfterNUptoRow, standIns := [], harness := (true, "0d9f33117a094614984ffbc63f79ff43e9dad72bdee86785e24a91b0e2d8d888"), looks := false }, kinds := [], alts := [], laidByText := true, laidKinds := [.data, .pinned], laidTests := true, laidLooks := .later }
def FnStrSplitAfterNUptoCardSaid : Prop := Claim7.holds Tryd.pinned (.plain (OpenSpec.upto fnStrSplitAfterNSpec)) fnStrSplitAfterNUptoCard

/-- THE SECOND FORM's CARD OF 'laws.FnSplitCount'. -/
def fnSplitCountUptoCard : Claim7 := { stood := { row := fnSplitCountUptoRow, standIns := [], harness := (true, "0d9f33117a094614984ffbc63f79ff43e9dad72bdee86785e24a91b0e2d8d888"), looks := false }, kinds := [], alts := [], laidByText := true, laidKinds := [.data, .pinned], laidTests := true, laidLooks := .later }
def FnSplitCountUptoCardSaid : Prop := Claim7.holds Tryd.pinned (.plain (OpenSpec.upto fnSplitCountSpec)) fnSplitCountUptoCard

/-- THE SECOND FORM's CARD OF 'laws.FnSplitPieces'. -/
def fnSplitPiecesUptoCard : Claim7 := { stood := { row := fnSplitPiecesUptoRow, standIns := [], harness := (true, "0d9f33117a094614984ffbc63f79ff43e9dad72bdee86785e24a91b0e2d8d888"), looks := false }, kinds := [], alts := [], laidByText := true, laidKinds := [.data, .pinned], laidTests := true, laidLooks := .later }
def FnSplitPiecesUptoCardSaid : Prop := Claim7.holds Tryd.pinned (.plain (OpenSpec.upto fnSplitPiecesSpec)) fnSplitPiecesUptoCard

/-- THE SECOND FORM's CARD OF 'laws.FnReplaceSame'. -/
def fnReplaceSameUptoCard : Claim7 := { stood := { row := fnReplaceSameUptoRow, standIns := [], harness := (true, "0d9f33117a094614984ffbc63f79ff43e9dad72bdee86785e24a91b0e2d8d888"), looks := false }, kinds := [], alts := [], laidByText := true, laidKinds := [.data, .pinned], laidTests := true, laidLooks := .later }
def FnReplaceSameUptoCardSaid : Prop := Claim7.holds Tryd.pinned (.plain (OpenSpec.upto fnReplaceSameSpec)) fnReplaceSameUptoCard

/-- THE SECOND FORM's CARD OF 'laws.FnStrReplace'. -/
def fnStrReplaceUptoCard : Claim7 := { stood := { row := fnStrReplaceUptoRow, standIns := [], harness := (true, "0d9f33117a094614984ffbc63f79ff43e9dad72bdee86785e24a91b0e2d8d888"), looks := false }, kinds := [], alts := [], laidByText := true, laidKinds := [.data, .pinned], laidTests := true, laidLooks := .later }
def FnStrReplaceUptoCardSaid : Prop := Claim7.holds Tryd.pinned (.plain (OpenSpec.upto fnStrReplaceSpec)) fnStrReplaceUptoCard
end Rows
end Go.Proofs.YtocegdangdcicaaDoor
