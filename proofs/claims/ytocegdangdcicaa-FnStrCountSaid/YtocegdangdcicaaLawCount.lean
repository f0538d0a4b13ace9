/- The law FnStrCount: the walk returns true. -/
import Derived.Test.YtocegdangdcicaaCount
import Derived.Test.YtocegdangdcicaaBreaks
namespace Go.Proofs.Ytocegdangdcicaa
open Go.RowKit Go.Lib
set_option linter.unusedVariables false

theorem chain {a b c : World} (h : Below a.heap.size a b) (k : Below b.heap.size b c) : Below a.heap.size a c := h.trans (k.mono h.size)
theorem breaks_count (s sep : ByteArray) (h : 1 ≤ sep.size) : (breaks s sep (-1)).length = cntB s sep := by
  unfold breaks
  rw [cutMost_neg (by omega), if_neg (by omega), cntB_more s sep h, countB_brk s sep h]
theorem starts_count (s sep : ByteArray) (h : sep.size = 0) : (starts s).length + 1 = cntB s sep := by
  rw [starts_length, cntB_empty s sep h]

set_option maxHeartbeats 1600000 in
theorem walk_FnStrCount (a0 a1 : ByteArray) (w : World) (w0 : a0.size ≤ maxLen) (w1 : a1.size ≤ maxLen) :
    Calls Try.prog 5 #[.string a0, .string a1] w fun e w' => e = .returned (.bool true) ∧ Below w.heap.size w w' := by
  unfold maxLen at w0 w1
  by_cases h0 : 2147483647 < a0.size
  · go_enter Try.func5, Try.ntmps5
    go_wp2
    go_ret
    exact ⟨rfl, Below.refl _ _⟩
  by_cases h1 : 2147483647 < a1.size
  · go_enter Try.func5, Try.ntmps5
    go_wp2
    go_ret
    exact ⟨rfl, Below.refl _ _⟩
  have hab : Hid (cntB ⟨#[97, 98]⟩ ⟨#[98]⟩ = 1) := by show _ = _; decide
  have hcl := cntB_le a0 a1
  by_cases hz : a1.size = 0
  · have he : a1.toList.isEmpty = true := by rw [empty_of]; simpa using hz
    have HL := Lib.hid (starts_count a0 a1 hz)
    have hsl := starts_le a0
    clear hz
    go_enter Try.func5, Try.ntmps5
    go_wp2_with (first
      | (go_at_call 12; refine (seBreaks a0 a1 (-1) (by omega) (by omega) _).mono ?_; rintro e w2 ⟨v2, rfl, hown2, hB2⟩; obtain ⟨a2, cap2, rfl, hc2, hr2⟩ := own_ints hown2; clear hr2 hown2 hc2)
      | (go_at_call 13; refine (seStarts a0 (by omega) _).mono ?_; rintro e w3 ⟨v3, rfl, hown3, hB3⟩; obtain ⟨a3, cap3, rfl, hc3, hr3⟩ := own_ints hown3; clear hr3 hown3 hc3)
      | (go_at_call 14; refine (implStrCount a0 a1 (by omega) (by omega) _).mono ?_; rintro e w4 ⟨rfl, hB4⟩; rw [← HL.out])
      | (go_at_call 14; refine (implStrCount ⟨#[97, 98]⟩ ⟨#[98]⟩ (by decide) (by decide) _).mono ?_; rintro e w5 ⟨rfl, hB5⟩; rw [hab.out]))
    all_goals (go_ret; exact ⟨rfl, chain (chain (chain hB2 hB3) hB4) hB5⟩)
  have he : a1.toList.isEmpty = false := by rw [empty_of]; simpa using hz
  have HL := Lib.hid (breaks_count a0 a1 (by omega))
  clear hz
  go_enter Try.func5, Try.ntmps5
  go_wp2_with (first
    | (go_at_call 12; refine (seBreaks a0 a1 (-1) (by omega) (by omega) _).mono ?_; rintro e w2 ⟨v2, rfl, hown2, hB2⟩; obtain ⟨a2, cap2, rfl, hc2, hr2⟩ := own_ints hown2; clear hr2 hown2 hc2; rw [HL.out])
    | (go_at_call 14; refine (implStrCount a0 a1 (by omega) (by omega) _).mono ?_; rintro e w4 ⟨rfl, hB4⟩)
    | (go_at_call 14; refine (implStrCount ⟨#[97, 98]⟩ ⟨#[98]⟩ (by decide) (by decide) _).mono ?_; rintro e w5 ⟨rfl, hB5⟩; rw [hab.out]))
  all_goals (go_ret; exact ⟨rfl, chain (chain hB2 hB4) hB5⟩)
end Go.Proofs.Ytocegdangdcicaa
