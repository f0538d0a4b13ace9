/- The law FnIndexMade: the walk returns true. -/
import Derived.Test.YtocegdangdcicaaLawContains
namespace Go.Proofs.Ytocegdangdcicaa
open Go.Shelf Go.RowKit Go.Lib
set_option linter.unusedVariables false

set_option maxHeartbeats 1600000 in
theorem walk_FnIndexMade (a0 a1 a2 : ByteArray) (w : World) (w0 : a0.size ≤ maxLen) (w1 : a1.size ≤ maxLen) (w2 : a2.size ≤ maxLen) :
    Calls Try.prog 6 #[.string a0, .string a1, .string a2] w fun e w' => e = .returned (.bool true) ∧ Below w.heap.size w w' := by
  unfold maxLen at w0 w1 w2
  by_cases h0 : 2147483647 < a0.size
  · go_enter Try.func6, Try.ntmps6
    go_wp2
    go_ret
    exact ⟨rfl, Below.refl _ _⟩
  by_cases h1 : 2147483647 < a1.size
  · go_enter Try.func6, Try.ntmps6
    go_wp2
    go_ret
    exact ⟨rfl, Below.refl _ _⟩
  by_cases h2 : 2147483647 < a2.size
  · go_enter Try.func6, Try.ntmps6
    go_wp2
    go_ret
    exact ⟨rfl, Below.refl _ _⟩
  have hsz : (a0 ++ a1 ++ a2).size = a0.size + a1.size + a2.size := by simp
  have hsz1 : (a0 ++ a1).size = a0.size + a1.size := by simp
  obtain ⟨m1, m2⟩ := index_made a0 a1 a2
  have m3 := last_made a0 a1 a2
  have e : (a0 ++ a1 ++ a2).data.toList = a0.data.toList ++ (a1.data.toList ++ a2.data.toList) := by simp
  rw [e] at m1 m2 m3
  clear e
  have d1 : decide (0 ≤ index (a0.data.toList ++ (a1.data.toList ++ a2.data.toList)) a1.data.toList) = true := by simpa using m1
  have d2 : decide (index (a0.data.toList ++ (a1.data.toList ++ a2.data.toList)) a1.data.toList ≤ (a0.size : Int)) = true := by simpa using m2
  have d3 : decide ((a0.size : Int) ≤ lastIndex (a0.data.toList ++ (a1.data.toList ++ a2.data.toList)) a1.data.toList) = true := by simpa using m3
  have hab : (index [97, 98] [98] == 1) = true := by decide
  have b1' : (a0 ++ a1 ++ a2).size < 1152921504606846976 := by omega
  have HS := Lib.hid hsz
  have HS1 := Lib.hid hsz1
  clear hsz hsz1
  go_enter Try.func6, Try.ntmps6
  go_wp2_with (first | (go_at_call 15; refine (implStrIndex _ _ (by first | omega | decide) (by first | omega | decide) _).mono ?_; rintro e w' ⟨rfl, rfl⟩) | (go_at_call 16; refine (implStrLastIndex2 _ _ (by omega) _).mono ?_; rintro e w' ⟨rfl, rfl⟩))
  all_goals (go_ret; exact ⟨rfl, Below.refl _ _⟩)
end Go.Proofs.Ytocegdangdcicaa
