/- The law FnTrimTwice. -/
import Derived.Test.YthnbifkcbeldmaaDoorTrimAll
namespace Go.Proofs.YthnbifkcbeldmaaDoor
open Go.Shelf Go.RowKit Go.Lib
set_option linter.unusedVariables false
theorem trim_le (p : Nat → Bool) (l : List UInt8) : (trimB p l).length ≤ l.length ∧ (trimL p l).length ≤ l.length ∧ (trimR p l).length ≤ l.length := by
  refine ⟨?_, ?_, ?_⟩
  · rw [trimB, trimL, trimR, List.length_drop, List.length_take]; omega
  · rw [trimL, List.length_drop]; omega
  · rw [trimR, List.length_take]; omega
theorem trim_ab : (⟨(trimB (pOf ⟨#[98]⟩) [97, 98]).toArray⟩ : ByteArray) = ⟨#[97]⟩ := by
  have hm : ∀ c ∈ (⟨#[98]⟩ : ByteArray).data.toList, c.toNat < 128 := by decide
  rw [← trimS_set (pOf_ascii hm) hm]
  decide
set_option maxHeartbeats 3200000 in
set_option maxRecDepth 100000 in
theorem walk_FnTrimTwice (a0 a1 : ByteArray) (w : World) (w0 : a0.size ≤ maxLen) (w1 : a1.size ≤ maxLen) (htab : Lib.Utf8Tabs 2 3 w) :
    Calls Tryd.prog 10 #[.string a0, .string a1] w fun e w' => e = .returned (.bool true) ∧ Below w.heap.size w w' := by
  have hm : maxLen = 9223372036854775807 := rfl
  rw [hm] at w0 w1
  clear hm
  by_cases h0 : 2147483647 < a0.size
  · go_enter Tryd.func10, Tryd.ntmps10
    go_wp2
    go_ret
    exact ⟨rfl, Below.refl _ _⟩
  by_cases h1 : 2147483647 < a1.size
  · go_enter Tryd.func10, Tryd.ntmps10
    go_wp2
    go_ret
    exact ⟨rfl, Below.refl _ _⟩
  obtain ⟨hT1, hT2⟩ := trim_twice (pOf a1) a0.data.toList
  obtain ⟨hl1, hl2, _⟩ := trim_le (pOf a1) a0.data.toList
  rw [← Lib.size_eq] at hl1 hl2
  obtain ⟨o, ho⟩ : ∃ o : ByteArray, o = ⟨(trimB (pOf a1) a0.data.toList).toArray⟩ := ⟨_, rfl⟩
  obtain ⟨u, hu⟩ : ∃ u : ByteArray, u = ⟨(trimL (pOf a1) a0.data.toList).toArray⟩ := ⟨_, rfl⟩
  have hos : o.size ≤ a0.size := by rw [ho, Lib.size_mk]; exact hl1
  have hus : u.size ≤ a0.size := by rw [hu, Lib.size_mk]; exact hl2
  have hod : o.data.toList = trimB (pOf a1) a0.data.toList := by rw [ho]
  have hud : u.data.toList = trimL (pOf a1) a0.data.toList := by rw [hu]
  have HT := Lib.hid htab
  have H1 : Hid (Calls Tryd.prog 32 #[.string a0, .string a1] w fun e w' => e = .returned (.string o) ∧ Below w.heap.size w w') := Lib.hid (by rw [ho]; exact implTrim a0 a1 w (by omega) (by omega) htab)
  have H2 : Hid (∀ W, Below w.heap.size w W → Calls Tryd.prog 32 #[.string o, .string a1] W fun e w' => e = .returned (.string o) ∧ Below W.heap.size W w') := Lib.hid (fun W hB => by
    have h := implTrim o a1 W (by omega) (by omega) (Utf8Tabs_below HT.out hB)
    rw [hod, hT1, ← ho] at h
    exact h)
  have H3 : Hid (∀ W, Below w.heap.size w W → Calls Tryd.prog 30 #[.string a0, .string a1] W fun e w' => e = .returned (.string u) ∧ Below W.heap.size W w') := Lib.hid (fun W hB => by rw [hu]; exact implTrimLeft a0 a1 W (by omega) (by omega) (Utf8Tabs_below HT.out hB))
  have H4 : Hid (∀ W, Below w.heap.size w W → Calls Tryd.prog 31 #[.string u, .string a1] W fun e w' => e = .returned (.string o) ∧ Below W.heap.size W w') := Lib.hid (fun W hB => by
    have h := implTrimRight u a1 W (by omega) (by omega) (Utf8Tabs_below HT.out hB)
    rw [hud, hT2, ← ho] at h
    exact h)
  have H5 : Hid (∀ W, Below w.heap.size w W → Calls Tryd.prog 32 #[.string ⟨#[97, 98]⟩, .string ⟨#[98]⟩] W fun e w' => e = .returned (.string ⟨#[97]⟩) ∧ Below W.heap.size W w') := Lib.hid (fun W hB => by
    have h := implTrim ⟨#[97, 98]⟩ ⟨#[98]⟩ W (by decide) (by decide) (Utf8Tabs_below HT.out hB)
    rw [show (⟨#[97, 98]⟩ : ByteArray).data.toList = [97, 98] from rfl, trim_ab] at h
    exact h)
  clear hT1 hT2 hl1 hl2 ho hu hos hus hod hud htab
  go_enter Tryd.func10, Tryd.ntmps10
  go_wp2_with (first
    | (go_at_call 32; have B4' := B4; refine (H5.out _ B4).mono ?_; rintro e w5 ⟨rfl, hB5⟩; have B5 := Lib.hid (B4.trans (hB5.mono B4.size)))
    | (go_at_call 31; have B3' := B3; refine (H4.out _ B3).mono ?_; rintro e w4 ⟨rfl, hB4⟩; have B4 := B3.trans (hB4.mono B3.size))
    | (go_at_call 30; have B2' := B2; refine (H3.out _ B2).mono ?_; rintro e w3 ⟨rfl, hB3⟩; have B3 := B2.trans (hB3.mono B2.size))
    | (go_at_call 32; have B1' := B1; refine (H2.out _ B1).mono ?_; rintro e w2 ⟨rfl, hB2⟩; have B2 := B1.trans (hB2.mono B1.size))
    | (go_at_call 32; refine H1.out.mono ?_; rintro e w1 ⟨rfl, B1⟩))
  all_goals (go_ret; exact ⟨rfl, B5.out⟩)
end Go.Proofs.YthnbifkcbeldmaaDoor
