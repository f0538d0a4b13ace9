/- gostrings.IndexRune at every code point; ContainsRune; the law FnStrContainsRune. -/
import Derived.Test.YthnbifkcbeldmaaIndexRune
import Derived.Test.YthnbifkcbeldmaaIdxErr
import Derived.Laws.Cover4
import Derived.Stop.FmtQuoteTie
namespace Go.Proofs.Ythnbifkcbeldmaa
open Go.RowKit Go.Lib
set_option linter.unusedVariables false

/-- the index of a code point, as the program looks for it -/
def irOf (s : ByteArray) (r : Int) : Int :=
  if 0 ≤ r ∧ r < 128 then Lib.indexByte s.data.toList r.toNat.toUInt8
  else if r = 65533 then errAt s
  else if Lib.validRune r = true then Lib.index s.data.toList (Utf8.encode r).data.toList
  else -1
set_option maxHeartbeats 1600000 in
set_option maxRecDepth 1000000 in
theorem indexRune_ascii (s : ByteArray) (r : Int) (w : World) (hs : s.size < 4611686018427387904) (h0 : 0 ≤ r) (h1 : r < 128) :
    Calls Try.prog 16 #[.string s, .int .i32 r] w fun e w' => e = .returned (.int .i64 (Lib.indexByte s.data.toList r.toNat.toUInt8)) ∧ w' = w := by
  obtain ⟨c, rfl⟩ : ∃ c : UInt8, r = (c.toNat : Int) := ⟨r.toNat.toUInt8, by simp; omega⟩
  have e : (c.toNat : Int).toNat.toUInt8 = c := by simp
  have HC := Lib.hid (strIndexByte s c hs)
  have hc1 : (c.toNat : Int) % 256 = (c.toNat : Int) := by omega
  rw [e]
  clear e
  go_enter Try.func16, Try.ntmps16
  go_wp2_with (go_at_call 24; refine (HC.out _).mono ?_; rintro e w' ⟨rfl, rfl⟩)
  go_ret
  exact ⟨rfl, rfl⟩
set_option maxHeartbeats 1600000 in
set_option maxRecDepth 1000000 in
theorem indexRune_bad (s : ByteArray) (r : Int) (w : World) (h0 : ¬ (0 ≤ r ∧ r < 128)) (h1 : r ≠ 65533) (hv : Lib.validRune r = false) :
    Calls Try.prog 16 #[.string s, .int .i32 r] w fun e w' => e = .returned (.int .i64 (-1)) ∧ w' = w := by
  have hr2 : (r == 65533) = false := beq_eq_false_iff_ne.2 h1
  by_cases h : 0 ≤ r
  · have hr1 : ¬ (r < 128) := by omega
    clear h0
    go_enter Try.func16, Try.ntmps16
    go_wp2_with (go_at_call 25; refine (Try.utf8_ValidRune r _).mono ?_; rintro e w' ⟨rfl, rfl⟩; rw [hv])
    go_ret
    exact ⟨rfl, rfl⟩
  · have hr1 : r < 0 := by omega
    clear h0
    go_enter Try.func16, Try.ntmps16
    go_wp2_with (go_at_call 25; refine (Try.utf8_ValidRune r _).mono ?_; rintro e w' ⟨rfl, rfl⟩; rw [hv])
    go_ret
    exact ⟨rfl, rfl⟩
theorem encode_two (r : Int) (h0 : 128 ≤ r) : 2 ≤ (Utf8.encode r).size ∧ (Utf8.encode r).size ≤ 4 := by
  refine ⟨?_, encode_size_le r⟩
  obtain ⟨n, rfl⟩ : ∃ n : Nat, r = (n : Int) := ⟨r.toNat, by omega⟩
  rw [Lib.size_eq]
  by_cases h1 : n < 2048
  · rw [Go.Extern.FmtText.enc2 n (by omega) h1]; simp
  by_cases h2 : (55296 ≤ n ∧ n ≤ 57343) ∨ 1114111 < n
  · rw [Go.Extern.FmtText.encBad n h2]; simp
  by_cases h3 : n < 65536
  · rw [Go.Extern.FmtText.enc3 n h1 h3 (by omega)]; simp
  · rw [Go.Extern.FmtText.enc4 n h3 (by omega)]; simp
theorem run_rune_string (r : Int) (w : World) : (convert 21 9 (.int .i32 r)).run Try.prog w = .ok (.string (Utf8.encode r)) w := by
  simp [go_sem, Try.underlying21, Try.underlying9]
theorem gIndexRune (s : ByteArray) (r : Int) (w : World) (hs : s.size < 4294967281) :
    Calls Try.prog 16 #[.string s, .int .i32 r] w fun e w' => e = .returned (.int .i64 (irOf s r)) ∧ Below w.heap.size w w' := by
  unfold irOf
  by_cases h0 : 0 ≤ r ∧ r < 128
  · rw [if_pos h0]
    exact (indexRune_ascii s r w (by omega) h0.1 h0.2).mono fun e w' ⟨h1, h2⟩ => ⟨h1, h2 ▸ Below.refl _ _⟩
  rw [if_neg h0]
  by_cases h1 : r = 65533
  · rw [if_pos h1]
    subst h1
    exact indexRune_err s w (by omega)
  rw [if_neg h1]
  by_cases hv : Lib.validRune r = true
  · rw [if_pos hv]
    have hr : 128 ≤ r := by
      have : 0 ≤ r := by
        unfold Lib.validRune at hv
        simp at hv
        omega
      omega
    obtain ⟨h2, h4⟩ := encode_two r hr
    refine (indexRune_core s (Utf8.encode r) r ((Utf8.encode r).size - 1) w hs hr h1 hv (by omega) (by omega) (by omega) (run_rune_string r)).mono ?_
    rintro e w' ⟨h1, n, rfl⟩
    exact ⟨h1, ⟨rfl, rfl, rfl, Nat.le_refl _, fun _ _ => rfl⟩⟩
  · rw [if_neg hv]
    exact (indexRune_bad s r w h0 h1 (eq_false_of_ne_true hv)).mono fun e w' ⟨h1, h2⟩ => ⟨h1, h2 ▸ Below.refl _ _⟩
set_option maxHeartbeats 800000 in
theorem gContainsRune (s : ByteArray) (r : Int) (w : World) (hs : s.size < 4294967281) :
    Calls Try.prog 15 #[.string s, .int .i32 r] w fun e w' => e = .returned (.bool (decide (0 ≤ irOf s r))) ∧ Below w.heap.size w w' := by
  have H := Lib.hid (gIndexRune s r w hs)
  go_enter Try.func15, Try.ntmps15
  go_wp2_with (go_at_call 16; refine H.out.mono ?_; rintro e w' ⟨rfl, hB⟩)
  go_ret
  exact ⟨rfl, hB⟩
set_option maxHeartbeats 800000 in
theorem implContainsRune (s : ByteArray) (r : Int) (w : World) (hs : s.size < 4294967281) :
    Calls Try.prog 9 #[.string s, .int .i32 r] w fun e w' => e = .returned (.bool (decide (0 ≤ irOf s r))) ∧ Below w.heap.size w w' := by
  have H := Lib.hid (gContainsRune s r w hs)
  go_enter Try.func9, Try.ntmps9
  go_wp2_with (go_at_call 15; refine H.out.mono ?_; rintro e w' ⟨rfl, hB⟩)
  go_ret
  exact ⟨rfl, hB⟩
set_option maxHeartbeats 800000 in
theorem implIndexRune (s : ByteArray) (r : Int) (w : World) (hs : s.size < 4294967281) :
    Calls Try.prog 10 #[.string s, .int .i32 r] w fun e w' => e = .returned (.int .i64 (irOf s r)) ∧ Below w.heap.size w w' := by
  have H := Lib.hid (gIndexRune s r w hs)
  go_enter Try.func10, Try.ntmps10
  go_wp2_with (go_at_call 16; refine H.out.mono ?_; rintro e w' ⟨rfl, hB⟩)
  go_ret
  exact ⟨rfl, hB⟩
set_option maxHeartbeats 1600000 in
theorem walk_FnStrContainsRune (a0 : ByteArray) (a1 : Int) (w : World) (w0 : a0.size ≤ maxLen) (w1 : (Lit.int .i32 a1).wf = true) :
    Calls Try.prog 4 #[.string a0, .int .i32 a1] w fun e w' => e = .returned (.bool true) ∧ Below w.heap.size w w' := by
  unfold maxLen at w0
  by_cases h0 : 2147483647 < a0.size
  · go_enter Try.func4, Try.ntmps4
    go_wp2
    go_ret
    exact ⟨rfl, Below.refl _ _⟩
  have hab : Hid (decide (0 ≤ irOf ⟨#[97, 98]⟩ 98) = true) := by show _ = _; decide
  have H1 := Lib.hid (implContainsRune a0 a1 w (by omega))
  have H2 := Lib.hid (fun W => implIndexRune a0 a1 W (by omega))
  have H3 := Lib.hid (fun W => implContainsRune ⟨#[97, 98]⟩ 98 W (by decide))
  generalize hg : irOf a0 a1 = v at *
  go_enter Try.func4, Try.ntmps4
  go_wp2_with (first
    | (go_at_call 9; have B2' := B2; refine (H3.out _).mono ?_; rintro e w3 ⟨rfl, hB3⟩; rw [hab.out])
    | (go_at_call 10; have B1' := B1; refine (H2.out _).mono ?_; rintro e w2 ⟨rfl, B2⟩)
    | (go_at_call 9; refine H1.out.mono ?_; rintro e w1 ⟨rfl, B1⟩))
  all_goals (go_ret; exact ⟨rfl, (B1.trans (B2.mono B1.size)).trans (hB3.mono (Nat.le_trans B1.size B2.size))⟩)
end Go.Proofs.Ythnbifkcbeldmaa
