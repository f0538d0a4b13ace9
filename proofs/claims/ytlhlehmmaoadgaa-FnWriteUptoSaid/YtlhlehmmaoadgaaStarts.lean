/- The reference's StartsAt and Index: 'occAt' and 'index' of the library. -/
import Derived.Test.YtlhlehmmaoadgaaRows
import Derived.WalkKit
import Derived.WalkSpells
import Derived.WalkLawsBesides
import Derived.Lib.Walk
import Derived.Lib.Strings
import Derived.Lib.IndexBytes
import Derived.BigCall
import Derived.BigGuard
import Derived.Lib.Hide
import Derived.Outline
namespace Go.Proofs.Ytlhlehmmaoadgaa
open Go.RowKit Go.Lib
set_option linter.unusedVariables false

theorem occ_far (s sub : ByteArray) (i : Nat) (h : s.size < i + sub.size) (hi : i ≤ s.size) : occAt s.data.toList sub.data.toList i = false := by
  cases ho : occAt s.data.toList sub.data.toList i with
  | false => rfl
  | true =>
    rcases occAt_room ho with h1 | h1
    · simp at h1; omega
    · have : sub.size = 0 := by simpa using congrArg List.length h1
      omega
theorem isEmpty_iff (s : ByteArray) : s.toList.isEmpty = decide (s.size = 0) := by
  rw [Lib.toList_data, Bool.eq_iff_iff, List.isEmpty_iff, decide_eq_true_iff, ← List.length_eq_zero_iff]
  have : s.data.toList.length = s.size := by simp
  rw [this]


end Go.Proofs.Ytlhlehmmaoadgaa
