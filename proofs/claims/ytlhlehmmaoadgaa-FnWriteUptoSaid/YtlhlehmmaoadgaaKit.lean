/- What a law's walk is told of its arguments: a slice of texts that came in is nil, or leads to a row of cells that hold the texts. -/
import Derived.Below
import Derived.SliceStrings
namespace Go.Proofs.Ytlhlehmmaoadgaa

/-- A slice of texts that came in: nil, or a row of 'cap' cells that hold the texts 'ss'. -/
def IsStrs (w : World) (a : Option Addr) (len cap : Nat) (ss : List ByteArray) : Prop :=
  (a = none ∧ len = 0 ∧ cap = 0 ∧ ss = []) ∨
  ∃ x, a = some x ∧ len ≤ cap ∧ cap ≤ maxLen ∧ ss.length = cap ∧ (∀ i, i < ss.length → w.cell? (x.add i) = some (.string (ss.getD i ByteArray.empty))) ∧ ∀ s ∈ ss, s.size ≤ maxLen
end Go.Proofs.Ytlhlehmmaoadgaa
