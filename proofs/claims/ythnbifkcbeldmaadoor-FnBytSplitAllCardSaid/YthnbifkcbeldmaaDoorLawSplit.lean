/- The laws FnStrSplitAfter and FnStrSplitAfterN, FnSplitPieces: the walks return true. -/
import Derived.Test.YthnbifkcbeldmaaDoorRows
import Derived.Test.YthnbifkcbeldmaaDoorSplitAll
namespace Go.Proofs.YthnbifkcbeldmaaDoor
open Go.RowKit Go.Lib
set_option linter.unusedVariables false

theorem breaks_num (s sep : ByteArray) (m : Int) (h : 1 ≤ sep.size) : (breaks s sep m).length = if m < 0 then cntB s sep else min m.toNat (cntB s sep) := by
  unfold breaks cutMost
  rw [if_neg (show ¬ sep.size = 0 by omega), cntB_more s sep h, countB_brk s sep h]
  split
  · rfl
  · rw [List.length_take]
theorem ab_pieces (n : Int) (keep : Bool) (h : n = -1 ∨ n = 2) : (pieces ⟨#[97, 98]⟩ ⟨#[98]⟩ n keep).length = 2 := by
  have hab : cntB ⟨#[97, 98]⟩ ⟨#[98]⟩ = 1 := by decide
  rw [← pieces_text _ _ n keep (by omega) (by decide), cutPieces_length, breaks_num _ _ _ (by decide), hab]
  rcases h with rfl | rfl <;> decide

end Go.Proofs.YthnbifkcbeldmaaDoor
