/- The law FnSingle in its second form: a replacer of a single text replaces it wherever it stands, from the beginning on. -/
import Derived.Test.YtlhlehmmaoadgaaSgl
import Derived.Test.YtlhlehmmaoadgaaSpecRepl
import Derived.Test.YtlhlehmmaoadgaaLawGen
namespace Go.Proofs.Ytlhlehmmaoadgaa
open Go.RowKit Go.Lib
set_option linter.unusedVariables false

/-- a new row of two texts -/
theorem strs_two (w : World) (x y : ByteArray) (T : TypeId) (B : Nat) (hB : w.heap.size < B) : StrsAt (w.alloc (.cells #[.string x, .string y] T)) B (some ⟨w.heap.size, 0, none⟩) [x, y] := fun i hi => by
  refine ⟨_, rfl, hB, ?_⟩
  rw [show (⟨w.heap.size, 0, none⟩ : Addr).add i = ⟨w.heap.size, i, none⟩ by unfold Addr.add; split <;> simp_all, World.cell?_alloc_at _ _ _ _ rfl]
  match i, hi with
  | 0, _ => rfl
  | 1, _ => rfl

end Go.Proofs.Ytlhlehmmaoadgaa
