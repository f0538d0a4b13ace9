/- The laws FnStrSplitAfter and FnStrSplitAfterN, FnSplitPieces: the walks return true. -/
import Derived.Test.YtocegdangdcicaaDoorRows
import Derived.Test.YtocegdangdcicaaDoorSplitAll
namespace Go.Proofs.YtocegdangdcicaaDoor
open Go.RowKit Go.Lib
set_option linter.unusedVariables false

theorem breaks_num (s sep : ByteArray) (m : Int) (h : 1 ≤ sep.size) : (breaks s sep m).length = if m < 0 then cntB s sep else min m.toNat (cntB s sep) := by
  unfold breaks cutMost
  rw [if_neg (show ¬ sep.size = 0 by omega), cntB_more s sep h, countB_brk s sep h]
  split
  · rfl
  · rw [List.length_take]
theorem ab_pieces (n : Int) (keep : Bool) (h : n = -1 ∨ n = 2) : (pieces ⟨#[97, 98]⟩ ⟨#[98]⟩ n keep).length = 2 := by
  have hab : cntB ⟨#[97, 98]⟩ ⟨#[98]⟩ = 1 := by decide
  rw [← pieces_text _ _ n keep (by omega) (by decide), cutPieces_length, breaks_num _ _ _ (by decide), hab]
  rcases h with rfl | rfl <;> decide

set_option maxHeartbeats 1600000 in
theorem walk_FnStrSplitAfter (a0 a1 : ByteArray) (w : World) (w0 : a0.size ≤ maxLen) (w1 : a1.size ≤ maxLen) (htab : Lib.Utf8Tabs 0 1 w) :
    Calls Tryd.prog 4 #[.string a0, .string a1] w fun e w' => e = .returned (.bool true) ∧ Below w.heap.size w w' := by
  unfold maxLen at w0 w1
  by_cases h0 : 2147483647 < a0.size
  · clear htab
    go_enter Tryd.func4, Tryd.ntmps4
    go_wp2
    go_ret
    exact ⟨rfl, Below.refl _ _⟩
  by_cases h1 : 2147483647 < a1.size
  · clear htab
    go_enter Tryd.func4, Tryd.ntmps4
    go_wp2
    go_ret
    exact ⟨rfl, Below.refl _ _⟩
  have HT := Lib.hid htab
  have H1 := Lib.hid (implSplitAfter a0 a1 w (by omega) (by omega) htab)
  have H2 := Lib.hid (sePieces a0 a1 (-1) true (by omega) (by omega) (by decide) (by decide))
  have hl : (pieces a0 a1 (-1) true).length ≤ 4294967296 := by have := pieces_len a0 a1 (-1) true; omega
  have HA := Lib.hid (ab_pieces (-1) true (.inl rfl))
  clear htab
  generalize pieces a0 a1 (-1) true = P at *
  go_enter Tryd.func4, Tryd.ntmps4
  go_wp2_with (first
    | (go_at_call 15; refine (H2.out w2).mono ?_; rintro e w3 ⟨a3, cap3, rfl, hin3, hB3⟩)
    | (go_at_call 13; refine (seSame a2 a3 cap2 cap3 P w3 hl (hin2.below hB3) hin3).mono ?_; rintro e w4 ⟨rfl, rfl⟩)
    | (go_at_call 14; refine H1.out.mono ?_; rintro e w2 ⟨a2, cap2, rfl, hin2, hB2⟩)
    | (go_at_call 14; refine (implSplitAfter ⟨#[97, 98]⟩ ⟨#[98]⟩ w3 (by decide) (by decide) (Utf8Tabs_below HT.out (below2 hB2 hB3))).mono ?_; rintro e w5 ⟨a5, cap5, rfl, hin5, hB5⟩; rw [HA.out]))
  all_goals (go_ret; exact ⟨rfl, below2 (below2 hB2 hB3) hB5⟩)
end Go.Proofs.YtocegdangdcicaaDoor
