/- The laws FnStrContains and FnIndexMade: the walk of each returns true. -/
import Derived.Test.YtocegdangdcicaaDoorIndex
import Derived.Below
import Derived.WalkSmall
namespace Go.Proofs.YtocegdangdcicaaDoor
open Go.Shelf Go.RowKit Go.Lib
set_option linter.unusedVariables false


def hasB (s sep : ByteArray) : Bool := decide (0 ≤ index s.data.toList sep.data.toList)
theorem gsContains (s sep : ByteArray) (hs : s.size < 1152921504606846976) (hp : sep.size < 1152921504606846976) (w : World) :
    Calls Tryd.prog 32 #[.string s, .string sep] w fun e w' => e = .returned (.bool (hasB s sep)) ∧ w = w' := by
  unfold hasB
  go_enter Tryd.func32, Tryd.ntmps32
  go_wp2_with (first | (go_at_call 54; refine (strIndex s sep hs hp _).mono ?_; rintro e w' ⟨rfl, rfl⟩) | go_in)
  go_ret
  exact ⟨rfl, rfl⟩
theorem implContains (s sep : ByteArray) (hs : s.size < 1152921504606846976) (hp : sep.size < 1152921504606846976) (w : World) :
    Calls Tryd.prog 19 #[.string s, .string sep] w fun e w' => e = .returned (.bool (hasB s sep)) ∧ w = w' := by
  go_enter Tryd.func19, Tryd.ntmps19
  go_wp2_with (go_at_call 32; refine (gsContains s sep hs hp _).mono ?_; rintro e w' ⟨rfl, rfl⟩)
  go_ret
  exact ⟨rfl, rfl⟩


end Go.Proofs.YtocegdangdcicaaDoor
