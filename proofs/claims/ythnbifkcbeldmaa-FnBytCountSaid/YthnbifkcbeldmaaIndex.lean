/- stringslite.Index at a text of whatever length: the first place; strings' IndexByte. -/
import Derived.Test.YthnbifkcbeldmaaHash
import Derived.Test.YthnbifkcbeldmaaByteFind
import Derived.Lib.IndexLaws
import Derived.Lib.IndexBytes
namespace Go.Proofs.Ythnbifkcbeldmaa
open Go.Shelf Go.RowKit Go.Lib
set_option linter.unusedVariables false

theorem slIndexByte (s : ByteArray) (c : Int) (hs : s.size < 4611686018427387904) (h0 : 0 ≤ c) (h1 : c ≤ 255) (w : World) :
    Calls Try.prog 33 #[.string s, .int .u8 c] w fun e w' => e = .returned (.int .i64 (Lib.indexByte s.data.toList c.toNat.toUInt8)) ∧ w' = w := by
  have e : index s.data.toList (Go.Proofs.Ythnbifkcbeldmaa.b1 c).data.toList = Lib.indexByte s.data.toList c.toNat.toUInt8 := Lib.index_one _ _
  rw [← e]
  clear e
  go_enter Try.func33, Try.ntmps33
  go_wp2_with (go_at_call 41; refine (indexByteStr s c hs h0 h1 _).mono ?_; rintro e w' ⟨rfl, rfl⟩)
  go_ret
  exact ⟨rfl, rfl⟩

end Go.Proofs.Ythnbifkcbeldmaa
