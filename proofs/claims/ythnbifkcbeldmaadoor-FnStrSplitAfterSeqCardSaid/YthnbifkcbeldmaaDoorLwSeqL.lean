/- The law FnStrSplitAfterSeq: the walk returns true. -/
import Derived.Test.YthnbifkcbeldmaaDoorLwSeqS
import Derived.Test.YthnbifkcbeldmaaDoorLawSplit
namespace Go.Proofs.YthnbifkcbeldmaaDoor
open Go.RowKit Go.Lib
set_option linter.unusedVariables false
set_option maxHeartbeats 1600000 in
theorem walk_FnStrSplitAfterSeq (a0 a1 : ByteArray) (w : World) (w0 : a0.size ≤ maxLen) (w1 : a1.size ≤ maxLen) (htab : Lib.Utf8Tabs 2 3 w) :
    Calls Tryd.prog 7 #[.string a0, .string a1] w fun e w' => e = .returned (.bool true) ∧ Below w.heap.size w w' := by
  unfold maxLen at w0 w1
  by_cases h0 : 2147483647 < a0.size
  · clear htab
    go_enter Tryd.func7, Tryd.ntmps7
    go_wp2
    go_ret
    exact ⟨rfl, Below.refl _ _⟩
  by_cases h1 : 2147483647 < a1.size
  · clear htab
    go_enter Tryd.func7, Tryd.ntmps7
    go_wp2
    go_ret
    exact ⟨rfl, Below.refl _ _⟩
  have HT := Lib.hid htab
  have H1 := Lib.hid (implSplitAfterSeq a0 a1 w (by omega) (by omega) htab)
  have H2 : Hid (∀ W, Below w.heap.size w W → Calls Tryd.prog 28 #[.string a0, .string a1] W (RetStrs W (pieces a0 a1 (-1) true))) := Lib.hid (fun W hB => implSplitAfter a0 a1 W (by omega) (by omega) (Utf8Tabs_below HT.out hB))
  have hl : (pieces a0 a1 (-1) true).length ≤ 4294967296 := by have := pieces_len a0 a1 (-1) true; omega
  have HA := Lib.hid (ab_pieces (-1) true (.inl rfl))
  clear htab
  generalize pieces a0 a1 (-1) true = P at *
  go_enter Tryd.func7, Tryd.ntmps7
  go_wp2_with (first
    | (go_at_call 28; refine (H2.out w2 hB2).mono ?_; rintro e w3 ⟨a3, cap3, rfl, hin3, hB3⟩)
    | (go_at_call 24; refine (seSame a2 a3 cap2 cap3 P w3 hl (hin2.below hB3) hin3).mono ?_; rintro e w4 ⟨rfl, rfl⟩)
    | (go_at_call 27; have hB3' := hB3; refine (implSplitAfterSeq ⟨#[97, 98]⟩ ⟨#[98]⟩ w3 (by decide) (by decide) (Utf8Tabs_below HT.out (below2 hB2 hB3))).mono ?_; rintro e w5 ⟨a5, cap5, rfl, hin5, hB5⟩; rw [HA.out])
    | (go_at_call 27; refine H1.out.mono ?_; rintro e w2 ⟨a2, cap2, rfl, hin2, hB2⟩))
  all_goals (go_ret; exact ⟨rfl, below2 (below2 hB2 hB3) hB5⟩)
end Go.Proofs.YthnbifkcbeldmaaDoor
