/- The law FnReplaceSame: the walk returns true. -/
import Derived.Test.YtocegdangdcicaaDoorRows
import Derived.Test.YtocegdangdcicaaDoorShelf
import Derived.WalkKit
import Derived.WalkSpells
import Derived.WalkLawsBesides
import Derived.WalkSmall
import Derived.Below
import Derived.BigCall
import Derived.BigGuard
import Derived.Lib.Hide
import Derived.Lib.Walk
namespace Go.Proofs.YtocegdangdcicaaDoor
open Go.RowKit Go.Lib
set_option linter.unusedVariables false

set_option maxHeartbeats 800000 in
theorem replace_same (s old : ByteArray) (n : Int) (w : World) :
    Calls Tryd.prog 33 #[.string s, .string old, .string old, .int .i64 n] w fun e w' => e = .returned (.string s) ∧ w = w' := by
  go_enter Tryd.func33, Tryd.ntmps33
  go_wp2_with fail
  go_ret
  exact ⟨rfl, rfl⟩
set_option maxHeartbeats 800000 in
theorem walk_FnReplaceSame (a0 a1 : ByteArray) (a2 : Int) (w : World) (w0 : a0.size ≤ maxLen) (w1 : a1.size ≤ maxLen) (w2 : (Lit.int .i64 a2).wf = true) (htab : Lib.Utf8Tabs 0 1 w) :
    Calls Tryd.prog 8 #[.string a0, .string a1, .int .i64 a2] w fun e w' => e = .returned (.bool true) ∧ Below w.heap.size w w' := by
  unfold maxLen at w0 w1
  clear htab w2
  by_cases h0 : 2147483647 < a0.size
  · go_enter Tryd.func8, Tryd.ntmps8
    go_wp2
    go_ret
    exact ⟨rfl, Below.refl _ _⟩
  by_cases h1 : 2147483647 < a1.size
  · go_enter Tryd.func8, Tryd.ntmps8
    go_wp2
    go_ret
    exact ⟨rfl, Below.refl _ _⟩
  go_enter Tryd.func8, Tryd.ntmps8
  go_wp2_with (first | (go_at_call 33; refine (replace_same _ _ _ _).mono ?_; rintro e w' ⟨rfl, rfl⟩) | go_in)
  all_goals (go_ret; exact ⟨rfl, Below.refl _ _⟩)
end Go.Proofs.YtocegdangdcicaaDoor
