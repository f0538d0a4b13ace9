/- The law FnNext: the walk returns true. -/
import Derived.Test.YtpoedohdcccpiaaNext
import Derived.Test.YtpoedohdcccpiaaStarts
namespace Go.Proofs.Ytpoedohdcccpiaa
open Go.RowKit Go.Lib
set_option linter.unusedVariables false

theorem zzNext (p t : ByteArray) (hp : 1 ≤ p.size) (hs : p.size < 4294967296) (ht : t.size < 4294967296) (w : World) :
    Calls Try.prog 35 #[.string p, .string t] w fun e w' => e = .returned (.int .i64 (index t.data.toList p.data.toList)) ∧ Below w.heap.size w w' := by
  go_enter Try.func35, Try.ntmps35
  go_wp2_with (first | (go_at_call 45; refine (makeFinder p hp hs _).mono ?_; rintro e w1 ⟨bad, far, rfl, R, B⟩) | (go_at_call 46; refine (next_any _ _ p t bad far hp hs ht _ R).mono ?_; rintro e w2 ⟨rfl, n, rfl⟩))
  go_ret
  exact ⟨rfl, below_drewN B n⟩

theorem implNext (p t : ByteArray) (hp : 1 ≤ p.size) (hs : p.size < 4294967296) (ht : t.size < 4294967296) (w : World) :
    Calls Try.prog 16 #[.string p, .string t] w fun e w' => e = .returned (.int .i64 (index t.data.toList p.data.toList)) ∧ Below w.heap.size w w' := by
  go_enter Try.func16, Try.ntmps16
  go_wp2_with (go_at_call 35; refine (zzNext p t hp hs ht _).mono ?_; rintro e w1 ⟨rfl, B⟩)
  go_ret
  exact ⟨rfl, B⟩

set_option maxHeartbeats 800000 in
theorem walk_FnNext (a0 a1 : ByteArray) (w : World) (w0 : a0.size ≤ maxLen) (w1 : a1.size ≤ maxLen) :
    Calls Try.prog 5 #[.string a0, .string a1] w fun e w' => e = .returned (.bool true) ∧ Below w.heap.size w w' := by
  unfold maxLen at w0 w1
  by_cases h0 : 2147483647 < a0.size
  · go_enter Try.func5, Try.ntmps5
    go_wp2
    go_ret
    exact ⟨rfl, Below.refl _ _⟩
  by_cases h1 : 2147483647 < a1.size
  · go_enter Try.func5, Try.ntmps5
    go_wp2
    go_ret
    exact ⟨rfl, Below.refl _ _⟩
  by_cases hz : a0.size = 0
  · have he : a0.toList.isEmpty = true := by rw [isEmpty_iff]; simpa using hz
    clear hz
    go_enter Try.func5, Try.ntmps5
    go_wp2_with fail
    go_ret
    exact ⟨rfl, Below.refl _ _⟩
  have he : a0.toList.isEmpty = false := by rw [isEmpty_iff]; simpa using hz
  have n1 : 1 ≤ a0.size := by omega
  clear hz
  go_enter Try.func5, Try.ntmps5
  go_wp2_with (first | (go_at_call 16; refine (implNext a0 a1 (by omega) (by omega) (by omega) _).mono ?_; rintro e w1 ⟨rfl, B⟩) | (go_at_call 17; refine (specIndex a1 a0 (by omega) (by omega) _).mono ?_; rintro e w2 ⟨rfl, rfl⟩))
  go_ret
  exact ⟨rfl, B⟩
end Go.Proofs.Ytpoedohdcccpiaa
