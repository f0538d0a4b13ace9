/- The law FnStrLastIndex: the walk returns true. -/
import Derived.Test.YtpdlndpimfphlaaHash
import Derived.Test.YtpdlndpimfphlaaSpecAt
import Derived.Below
import Derived.WalkSmall
import Derived.Laws.IdiomStrings
import Derived.OpenShut
import Derived.Outline
import Derived.Lib.Hide
import Derived.RegionTactic
import Derived.ChangeAlike
import Derived.Deep.QuietTactic
import Derived.BigQuiet
import Derived.Deep.RegionWith
import Derived.Deep.DeepMust
namespace Go.Proofs.Ytpdlndpimfphlaa
open Go.Shelf Go.RowKit Go.Lib

theorem implStrLastIndex (s sep : ByteArray) (hs : s.size < 4611686018427387904) (w : World) :
    Calls Try.prog 29 #[.string s, .string sep] w fun e w' => e = .returned (.int .i64 (lastIndex s.data.toList sep.data.toList)) ∧ w = w' := by
  go_enter Try.func29, Try.ntmps29
  go_wp2_with (go_at_call 53; refine (strings_LastIndex _ _ hs _).mono ?_; rintro e w' ⟨rfl, rfl⟩)
  go_ret
  exact ⟨rfl, rfl⟩

set_option maxHeartbeats 800000 in
theorem walk_FnStrLastIndex (a0 a1 : ByteArray) (w : World) (w0 : a0.size ≤ maxLen) (w1 : a1.size ≤ maxLen) :
    Calls Try.prog 9 #[.string a0, .string a1] w fun e w' => e = .returned (.bool true) ∧ Below w.heap.size w w' := by
  unfold maxLen at w0 w1
  by_cases h0 : 2147483647 < a0.size
  · go_enter Try.func9, Try.ntmps9
    go_wp2
    go_ret
    exact ⟨rfl, Below.refl _ _⟩
  by_cases h1 : 2147483647 < a1.size
  · go_enter Try.func9, Try.ntmps9
    go_wp2
    go_ret
    exact ⟨rfl, Below.refl _ _⟩
  have hab : (lastIndex [97, 98] [98] == 1) = true := by decide
  go_enter Try.func9, Try.ntmps9
  go_wp2_with (first | (go_at_call 29; refine (implStrLastIndex _ _ (by first | omega | decide) _).mono ?_; rintro e w' ⟨rfl, rfl⟩) | (go_at_call 16; refine (seLast _ _ (by omega) (by omega) _).mono ?_; rintro e w' ⟨rfl, rfl⟩))
  go_ret
  exact ⟨rfl, Below.refl _ _⟩

end Go.Proofs.Ytpdlndpimfphlaa
