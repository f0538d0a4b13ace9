/- The law FnSplitCount: the walk returns true. -/
import Derived.Test.YtocegdangdcicaaDoorRows
import Derived.Test.YtocegdangdcicaaDoorSplit
namespace Go.Proofs.YtocegdangdcicaaDoor
open Go.RowKit Go.Lib
set_option linter.unusedVariables false

set_option maxHeartbeats 800000 in
theorem gsSplit_ne (s sep : ByteArray) (w : World) (hs : s.size ≤ 2147483647) (hp : sep.size ≤ 2147483647) (h1 : 1 ≤ sep.size) :
    Calls Tryd.prog 30 #[.string s, .string sep] w (RetStrs w (cutPieces s sep.size 0 (breaks s sep (-1 - 1)) 0)) := by
  go_enter Tryd.func30, Tryd.ntmps30
  go_wp2_with (go_at_call 39; refine (genSplit_text s sep 0 (-1) w hs hp h1 (Nat.zero_le _) (by decide) (by decide)).mono ?_; rintro e w' ⟨a, cap, rfl, hin, hB⟩)
  go_ret
  exact ⟨a, cap, rfl, hin, hB⟩
set_option maxHeartbeats 800000 in
theorem implSplit_ne (s sep : ByteArray) (w : World) (hs : s.size ≤ 2147483647) (hp : sep.size ≤ 2147483647) (h1 : 1 ≤ sep.size) :
    Calls Tryd.prog 17 #[.string s, .string sep] w (RetStrs w (cutPieces s sep.size 0 (breaks s sep (-1 - 1)) 0)) := by
  have hl := breaks_len s sep (-1 - 1)
  have hc : (cutPieces s sep.size 0 (breaks s sep (-1 - 1)) 0).length ≤ 4294967296 := by rw [cutPieces_length]; omega
  clear hl
  generalize hP : cutPieces s sep.size 0 (breaks s sep (-1 - 1)) 0 = P at *
  have H := Lib.hid (gsSplit_ne s sep · hs hp h1)
  rw [hP] at H
  clear hP
  go_enter Tryd.func17, Tryd.ntmps17
  go_wp2_with (first
    | (go_at_call 30; refine (H.out w).mono ?_; rintro e w' ⟨a, cap, rfl, hin, hB⟩)
    | (go_at_call 26; refine (cloneS a cap P w' hc hin).mono ?_; rintro e w2 ⟨a2, cap2, rfl, hin2, hB2⟩))
  go_ret
  exact ⟨a2, cap2, rfl, hin2, below2 hB hB2⟩
theorem split_count (s sep : ByteArray) (h : 1 ≤ sep.size) : (cutPieces s sep.size 0 (breaks s sep (-1 - 1)) 0).length = cntB s sep + 1 := by
  rw [cutPieces_length]
  unfold breaks
  rw [cutMost_neg (by omega), if_neg (by omega), cntB_more s sep h, countB_brk s sep h]

set_option maxHeartbeats 1600000 in
theorem walk_FnSplitCount (a0 a1 : ByteArray) (w : World) (w0 : a0.size ≤ maxLen) (w1 : a1.size ≤ maxLen) (htab : Lib.Utf8Tabs 0 1 w) :
    Calls Tryd.prog 6 #[.string a0, .string a1] w fun e w' => e = .returned (.bool true) ∧ Below w.heap.size w w' := by
  unfold maxLen at w0 w1
  clear htab
  by_cases h0 : 2147483647 < a0.size
  · go_enter Tryd.func6, Tryd.ntmps6
    go_wp2
    go_ret
    exact ⟨rfl, Below.refl _ _⟩
  by_cases h1 : 2147483647 < a1.size
  · go_enter Tryd.func6, Tryd.ntmps6
    go_wp2
    go_ret
    exact ⟨rfl, Below.refl _ _⟩
  have hcl := cntB_le a0 a1
  by_cases hz : a1.size = 0
  · have he : a1.toList.isEmpty = true := by rw [empty_of]; simpa using hz
    clear hz hcl
    go_enter Tryd.func6, Tryd.ntmps6
    go_wp2_with fail
    go_ret
    exact ⟨rfl, Below.refl _ _⟩
  have he : a1.toList.isEmpty = false := by rw [empty_of]; simpa using hz
  have HS := Lib.hid (implSplit_ne a0 a1 w (by omega) (by omega) (by omega))
  have HL := Lib.hid (split_count a0 a1 (by omega))
  clear hz
  generalize cutPieces a0 a1.size 0 (breaks a0 a1 (-1 - 1)) 0 = P at *
  go_enter Tryd.func6, Tryd.ntmps6
  go_wp2_with (first
    | (go_at_call 17; refine HS.out.mono ?_; rintro e w2 ⟨a2, cap2, rfl, hin2, hB2⟩; rw [HL.out])
    | (go_at_call 18; refine (implStrCount a0 a1 (by omega) (by omega) _).mono ?_; rintro e w4 ⟨rfl, hB4⟩))
  all_goals (go_ret; exact ⟨rfl, below2 hB2 hB4⟩)
end Go.Proofs.YtocegdangdcicaaDoor
