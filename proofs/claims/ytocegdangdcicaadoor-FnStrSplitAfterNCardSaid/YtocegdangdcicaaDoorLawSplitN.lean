/- The law FnStrSplitAfterN: the walk returns true. -/
import Derived.Test.YtocegdangdcicaaDoorLawSplit
import Derived.Test.YtocegdangdcicaaDoorPiecesN
namespace Go.Proofs.YtocegdangdcicaaDoor
open Go.RowKit Go.Lib
set_option linter.unusedVariables false

set_option maxHeartbeats 1600000 in
theorem walk_FnStrSplitAfterN (a0 a1 : ByteArray) (a2 : Int) (w : World) (w0 : a0.size ≤ maxLen) (w1 : a1.size ≤ maxLen) (w2 : (Lit.int .i64 a2).wf = true) (htab : Lib.Utf8Tabs 0 1 w) :
    Calls Tryd.prog 5 #[.string a0, .string a1, .int .i64 a2] w fun e w' => e = .returned (.bool true) ∧ Below w.heap.size w w' := by
  unfold maxLen at w0 w1
  obtain ⟨n1, n2⟩ := bounds_i64 w2
  clear w2
  by_cases h0 : 2147483647 < a0.size
  · clear htab
    go_enter Tryd.func5, Tryd.ntmps5
    go_wp2
    go_ret
    exact ⟨rfl, Below.refl _ _⟩
  by_cases h1 : 2147483647 < a1.size
  · clear htab
    go_enter Tryd.func5, Tryd.ntmps5
    go_wp2
    go_ret
    exact ⟨rfl, Below.refl _ _⟩
  have HT := Lib.hid htab
  have H1 := Lib.hid (implSplitAfterN a0 a1 a2 w (by omega) (by omega) n2 htab)
  have H2 := Lib.hid (sePieces_any a0 a1 a2 true (by omega) (by omega) n1 n2)
  have hl : (pieces a0 a1 a2 true).length ≤ 4294967296 := by have := pieces_len a0 a1 a2 true; omega
  have HA := Lib.hid (ab_pieces 2 true (.inr rfl))
  clear htab n1 n2
  generalize pieces a0 a1 a2 true = P at *
  go_enter Tryd.func5, Tryd.ntmps5
  go_wp2_with (first
    | (go_at_call 15; refine (H2.out x2).mono ?_; rintro e w3 ⟨a3, cap3, rfl, hin3, hB3⟩)
    | (go_at_call 13; refine (seSame b2 a3 cap2 cap3 P w3 hl (hin2.below hB3) hin3).mono ?_; rintro e w4 ⟨rfl, rfl⟩)
    | (go_at_call 16; refine (implSplitAfterN ⟨#[97, 98]⟩ ⟨#[98]⟩ 2 w3 (by decide) (by decide) (by decide) (Utf8Tabs_below HT.out (below2 hB2 hB3))).mono ?_; rintro e w5 ⟨a5, cap5, rfl, hin5, hB5⟩; rw [HA.out])
    | (go_at_call 16; refine H1.out.mono ?_; rintro e x2 ⟨b2, cap2, rfl, hin2, hB2⟩))
  all_goals (go_ret; exact ⟨rfl, below2 (below2 hB2 hB3) hB5⟩)
end Go.Proofs.YtocegdangdcicaaDoor
