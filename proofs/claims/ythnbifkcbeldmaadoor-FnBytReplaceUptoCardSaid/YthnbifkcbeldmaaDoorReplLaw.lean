/- The law FnStrReplace in its second form. -/
import Derived.Test.YthnbifkcbeldmaaDoorReplE
import Derived.Test.YthnbifkcbeldmaaDoorSeRepl
namespace Go.Proofs.YthnbifkcbeldmaaDoor
open Go.RowKit Go.Lib
set_option linter.unusedVariables false
theorem wf_bounds {n : Int} (h : (Lit.int .i64 n).wf = true) : -9223372036854775808 ≤ n ∧ n ≤ 9223372036854775807 := by
  have := h
  simp [Lit.wf, IntKind.min, IntKind.max, IntKind.signed, IntKind.bits] at this
  omega
theorem repl_bound (s new : ByteArray) (hs : s.size ≤ 1048576) (hn : new.size ≤ 1048576) : s.size + (s.size + 1) * new.size ≤ 70368744177664 := by
  have := Nat.mul_le_mul (show s.size + 1 ≤ 1048577 by omega) hn
  omega
theorem count_bound (s old new : ByteArray) (hs : s.size ≤ 1048576) (hn : new.size ≤ 1048576) : s.size + countB s old * new.size ≤ 70368744177664 ∨ old.size = 0 := by
  by_cases h0 : old.size = 0
  · exact .inr h0
  · left
    have h := countB_le old (by omega) _ s (Nat.le_refl _)
    have := Nat.mul_le_mul (show countB s old ≤ 1048577 by omega) hn
    omega
set_option maxHeartbeats 1600000 in
theorem replaceAbsent (s old new : ByteArray) (n : Int) (w : World) (hs : s.size < 4294967281) (hz : old.size ≤ 4294967296) (h1 : 1 ≤ old.size) (hne : old ≠ new) (hn0 : n ≠ 0) (hc0 : Lib.countB s old = 0) :
    Calls Tryd.prog 50 #[.string s, .string old, .string new, .int .i64 n] w fun e w' => e = .returned (.string s) ∧ w' = w := by
  have hC : Calls Tryd.prog 80 #[.string s, .string old] w fun e w' => e = .returned (.int .i64 ((0 : Nat) : Int)) ∧ w' = w := by
    have h := gsCount_ne s old (by omega) (by omega) (by omega) w
    rw [cntB_more s old h1, hc0] at h
    exact h.mono (fun _ _ ⟨a, b⟩ => ⟨a, b.symm⟩)
  have hbeq : (old.toList == new.toList) = false := beq_no hne
  have hnz : (n == 0) = false := beq_eq_false_iff_ne.2 hn0
  go_enter Tryd.func50, Tryd.ntmps50
  go_wp2_with (first | (go_at_call 80; refine hC.mono ?_; rintro e w' ⟨rfl, hw⟩; rw [hw]))
  go_ret
  exact ⟨rfl, rfl⟩
theorem gReplace (s old new : ByteArray) (n : Int) (w : World) (hs : s.size ≤ 1048576) (ho : old.size ≤ 1048576) (hn : new.size ≤ 1048576) (hT : Utf8Tabs 2 3 w) :
    Calls Tryd.prog 50 #[.string s, .string old, .string new, .int .i64 n] w fun e w' => e = .returned (.string (seReplB s old new n)) ∧ Below w.heap.size w w' := by
  by_cases hne : old = new
  · rw [← seReplB_of (seRepl_same s old new n hne).symm]
    exact (replaceNone s old new n w (.inl hne)).mono (fun e w' ⟨h1, h2⟩ => ⟨h1, h2 ▸ Below.refl _ _⟩)
  by_cases hn0 : n = 0
  · rw [← seReplB_of (by rw [hn0, seRepl_zero] : s.data.toList = seRepl s old new n)]
    exact (replaceNone s old new n w (.inr hn0)).mono (fun e w' ⟨h1, h2⟩ => ⟨h1, h2 ▸ Below.refl _ _⟩)
  by_cases h1 : 1 ≤ old.size
  · by_cases hc : countB s old = 0
    · rw [← seReplB_of (seRepl_no s old new n h1 hc).symm]
      exact (replaceAbsent s old new n w (by omega) (by omega) h1 hne hn0 hc).mono (fun e w' ⟨h1, h2⟩ => ⟨h1, h2 ▸ Below.refl _ _⟩)
    · unfold seReplB
      rw [seRepl_text s old new n h1]
      exact replaceSome s old new n w (by omega) (by omega) h1 hne hn0 hc ((count_bound s old new hs hn).resolve_right (by omega))
  · have h0 : old.size = 0 := by omega
    have e : seRepl s old new n = rj s.data.toList new.data.toList 0 ((starts s ++ [s.size]).take (howMany (runeCount s + 1) n)) 0 := by
      unfold seRepl places
      rw [if_pos h0, h0, cut_many, List.length_append, List.length_singleton, starts_length]
    unfold seReplB
    rw [e]
    exact replaceEmpty s old new n w (by omega) h0 hne hn0 (repl_bound s new hs hn) hT
theorem implReplaceN (s old new : ByteArray) (n : Int) (w : World) (hs : s.size ≤ 1048576) (ho : old.size ≤ 1048576) (hn : new.size ≤ 1048576) (hT : Utf8Tabs 2 3 w) :
    Calls Tryd.prog 22 #[.string s, .string old, .string new, .int .i64 n] w fun e w' => e = .returned (.string (seReplB s old new n)) ∧ Below w.heap.size w w' := by
  have H := Lib.hid (gReplace s old new n w hs ho hn hT)
  clear hT
  go_enter Tryd.func22, Tryd.ntmps22
  go_wp2_with (go_at_call 50; refine H.out.mono ?_; rintro e w' ⟨rfl, hB⟩)
  go_ret
  exact ⟨rfl, hB⟩
theorem repl_ab : seReplB ⟨#[97, 98]⟩ ⟨#[98]⟩ ⟨#[99]⟩ 1 = ⟨#[97, 99]⟩ := by
  unfold seReplB
  rw [seRepl_text _ _ _ _ (by decide), show replaceK (⟨#[98]⟩ : ByteArray).data.toList (⟨#[99]⟩ : ByteArray).data.toList (replaceNum (⟨#[97, 98]⟩ : ByteArray).data.toList (⟨#[98]⟩ : ByteArray).data.toList 1) (⟨#[97, 98]⟩ : ByteArray).data.toList = [97, 99] by decide]
set_option maxHeartbeats 3200000 in
theorem walk_FnStrReplace (a0 a1 a2 : ByteArray) (a3 : Int) (w : World) (w0 : a0.size ≤ maxLen) (b0 : a0.size ≤ 1048576) (w1 : a1.size ≤ maxLen) (b1 : a1.size ≤ 1048576) (w2 : a2.size ≤ maxLen) (b2 : a2.size ≤ 1048576) (w3 : (Lit.int .i64 a3).wf = true) (htab : Utf8Tabs 2 3 w) :
    Calls Tryd.prog 5 #[.string a0, .string a1, .string a2, .int .i64 a3] w fun e w' => e = .returned (.bool true) ∧ Below w.heap.size w w' := by
  obtain ⟨n1, n2⟩ := wf_bounds w3
  have hl := Nat.le_trans (seRepl_len a0 a1 a2 a3) (repl_bound a0 a2 b0 b2)
  have HT := Lib.hid htab
  have S1 : Hid (∀ W, Calls Tryd.prog 23 #[.string a0, .string a1, .string a2, .int .i64 a3] W fun e w' => e = .returned (.string (seReplB a0 a1 a2 a3)) ∧ Below W.heap.size W w') := Lib.hid (fun W => seReplaced a0 a1 a2 a3 (by omega) (by omega) (by omega) n1 n2 (Nat.le_trans hl (by omega)) W)
  have I1 : Hid (∀ W, Below w.heap.size w W → Calls Tryd.prog 22 #[.string a0, .string a1, .string a2, .int .i64 a3] W fun e w' => e = .returned (.string (seReplB a0 a1 a2 a3)) ∧ Below W.heap.size W w') := Lib.hid (fun W hB => implReplaceN a0 a1 a2 a3 W b0 b1 b2 (Utf8Tabs_below HT.out hB))
  have I2 : Hid (∀ W, Below w.heap.size w W → Calls Tryd.prog 22 #[.string ⟨#[97, 98]⟩, .string ⟨#[98]⟩, .string ⟨#[99]⟩, .int .i64 1] W fun e w' => e = .returned (.string ⟨#[97, 99]⟩) ∧ Below W.heap.size W w') := Lib.hid (fun W hB => by
    have h := implReplaceN ⟨#[97, 98]⟩ ⟨#[98]⟩ ⟨#[99]⟩ 1 W (by decide) (by decide) (by decide) (Utf8Tabs_below HT.out hB)
    rw [repl_ab] at h
    exact h)
  generalize seReplB a0 a1 a2 a3 = R at *
  clear hl htab n1 n2 w3
  go_enter Tryd.func5, Tryd.ntmps5
  go_wp2_with (first
    | (go_at_call 22; have B3' := B3; refine (I2.out _ B3).mono ?_; rintro e w9 ⟨rfl, hB9⟩; have B9 := B3.trans (hB9.mono B3.size))
    | (go_at_call 22; refine (I1.out _ (Below.refl _ _)).mono ?_; rintro e w1' ⟨rfl, B2⟩)
    | (go_at_call 23; refine (S1.out _).mono ?_; rintro e w3 ⟨rfl, hB3⟩; have B3 := B2.trans (hB3.mono B2.size)))
  all_goals (go_ret; exact ⟨rfl, B9⟩)
end Go.Proofs.YthnbifkcbeldmaaDoor
