/- The law FnLookup: the walk returns true. -/
import Derived.Test.YtlhlehmmaoadgaaLook
import Derived.Test.YtlhlehmmaoadgaaStarts
namespace Go.Proofs.Ytlhlehmmaoadgaa
open Go.RowKit Go.Lib
set_option linter.unusedVariables false

theorem even_odd (m : Nat) : ∃ n, m = 2 * n ∨ m = 2 * n + 1 := ⟨m / 2, by omega⟩
theorem occ0 (s k : List UInt8) : occAt s k 0 = true ↔ k <+: s := by
  unfold occAt
  rw [List.drop_zero, List.isPrefixOf_iff_prefix]
theorem occ0_no (s k : List UInt8) (h : ¬ k <+: s) : occAt s k 0 = false := by
  cases ho : occAt s k 0 with
  | false => rfl
  | true => exact absurd ((occ0 s k).1 ho) h
theorem nil_iff (k : ByteArray) : k.data.toList = [] ↔ k.size = 0 := by
  constructor
  · intro h; have := congrArg List.length h; simpa using this
  · intro h; exact List.eq_nil_of_length_eq_zero (by simpa using h)

end Go.Proofs.Ytlhlehmmaoadgaa
