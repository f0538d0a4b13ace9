/- The reference's firstAt and Replaced. -/
import Derived.Test.YtlhlehmmaoadgaaRepL
import Derived.Test.YtlhlehmmaoadgaaLawLookup
import Derived.Test.YtlhlehmmaoadgaaOwnB
import Derived.Deep.LoopGhost
namespace Go.Proofs.Ytlhlehmmaoadgaa
open Go.RowKit Go.Lib
set_option linter.unusedVariables false

theorem occI (s k : List UInt8) (i : Nat) : occAt s k i = true ↔ k <+: s.drop i := by
  unfold occAt
  rw [List.isPrefixOf_iff_prefix]
theorem occI_no (s k : List UInt8) (i : Nat) (h : ¬ k <+: s.drop i) : occAt s k i = false := by
  cases ho : occAt s k i with
  | false => rfl
  | true => exact absurd ((occI s k i).1 ho) h


end Go.Proofs.Ytlhlehmmaoadgaa
