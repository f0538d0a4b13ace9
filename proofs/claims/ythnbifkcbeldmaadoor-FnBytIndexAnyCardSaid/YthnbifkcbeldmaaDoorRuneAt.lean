/- gostrings.IndexRune at every code point; ContainsRune; the law FnStrContainsRune. -/
import Derived.Test.YthnbifkcbeldmaaDoorIndexRune
import Derived.Test.YthnbifkcbeldmaaDoorIdxErr
import Derived.Laws.Cover4
import Derived.Stop.FmtQuoteTie
namespace Go.Proofs.YthnbifkcbeldmaaDoor
open Go.RowKit Go.Lib
set_option linter.unusedVariables false

/-- the index of a code point, as the program looks for it -/
def irOf (s : ByteArray) (r : Int) : Int :=
  if 0 ≤ r ∧ r < 128 then Lib.indexByte s.data.toList r.toNat.toUInt8
  else if r = 65533 then errAt s
  else if Lib.validRune r = true then Lib.index s.data.toList (Utf8.encode r).data.toList
  else -1
set_option maxHeartbeats 1600000 in
set_option maxRecDepth 1000000 in
theorem indexRune_ascii (s : ByteArray) (r : Int) (w : World) (hs : s.size < 4611686018427387904) (h0 : 0 ≤ r) (h1 : r < 128) :
    Calls Tryd.prog 75 #[.string s, .int .i32 r] w fun e w' => e = .returned (.int .i64 (Lib.indexByte s.data.toList r.toNat.toUInt8)) ∧ w' = w := by
  obtain ⟨c, rfl⟩ : ∃ c : UInt8, r = (c.toNat : Int) := ⟨r.toNat.toUInt8, by simp; omega⟩
  have e : (c.toNat : Int).toNat.toUInt8 = c := by simp
  have HC := Lib.hid (strIndexByte s c hs)
  have hc1 : (c.toNat : Int) % 256 = (c.toNat : Int) := by omega
  rw [e]
  clear e
  go_enter Tryd.func75, Tryd.ntmps75
  go_wp2_with (go_at_call 112; refine (HC.out _).mono ?_; rintro e w' ⟨rfl, rfl⟩)
  go_ret
  exact ⟨rfl, rfl⟩
set_option maxHeartbeats 1600000 in
set_option maxRecDepth 1000000 in
theorem indexRune_bad (s : ByteArray) (r : Int) (w : World) (h0 : ¬ (0 ≤ r ∧ r < 128)) (h1 : r ≠ 65533) (hv : Lib.validRune r = false) :
    Calls Tryd.prog 75 #[.string s, .int .i32 r] w fun e w' => e = .returned (.int .i64 (-1)) ∧ w' = w := by
  have hr2 : (r == 65533) = false := beq_eq_false_iff_ne.2 h1
  by_cases h : 0 ≤ r
  · have hr1 : ¬ (r < 128) := by omega
    clear h0
    go_enter Tryd.func75, Tryd.ntmps75
    go_wp2_with (go_at_call 113; refine (Tryd.utf8_ValidRune r _).mono ?_; rintro e w' ⟨rfl, rfl⟩; rw [hv])
    go_ret
    exact ⟨rfl, rfl⟩
  · have hr1 : r < 0 := by omega
    clear h0
    go_enter Tryd.func75, Tryd.ntmps75
    go_wp2_with (go_at_call 113; refine (Tryd.utf8_ValidRune r _).mono ?_; rintro e w' ⟨rfl, rfl⟩; rw [hv])
    go_ret
    exact ⟨rfl, rfl⟩
theorem encode_two (r : Int) (h0 : 128 ≤ r) : 2 ≤ (Utf8.encode r).size ∧ (Utf8.encode r).size ≤ 4 := by
  refine ⟨?_, encode_size_le r⟩
  obtain ⟨n, rfl⟩ : ∃ n : Nat, r = (n : Int) := ⟨r.toNat, by omega⟩
  rw [Lib.size_eq]
  by_cases h1 : n < 2048
  · rw [Go.Extern.FmtText.enc2 n (by omega) h1]; simp
  by_cases h2 : (55296 ≤ n ∧ n ≤ 57343) ∨ 1114111 < n
  · rw [Go.Extern.FmtText.encBad n h2]; simp
  by_cases h3 : n < 65536
  · rw [Go.Extern.FmtText.enc3 n h1 h3 (by omega)]; simp
  · rw [Go.Extern.FmtText.enc4 n h3 (by omega)]; simp
theorem run_rune_string (r : Int) (w : World) : (convert 21 9 (.int .i32 r)).run Tryd.prog w = .ok (.string (Utf8.encode r)) w := by
  simp [go_sem, Tryd.underlying21, Tryd.underlying9]
theorem gIndexRune (s : ByteArray) (r : Int) (w : World) (hs : s.size < 4294967281) :
    Calls Tryd.prog 75 #[.string s, .int .i32 r] w fun e w' => e = .returned (.int .i64 (irOf s r)) ∧ Below w.heap.size w w' := by
  unfold irOf
  by_cases h0 : 0 ≤ r ∧ r < 128
  · rw [if_pos h0]
    exact (indexRune_ascii s r w (by omega) h0.1 h0.2).mono fun e w' ⟨h1, h2⟩ => ⟨h1, h2 ▸ Below.refl _ _⟩
  rw [if_neg h0]
  by_cases h1 : r = 65533
  · rw [if_pos h1]
    subst h1
    exact indexRune_err s w (by omega)
  rw [if_neg h1]
  by_cases hv : Lib.validRune r = true
  · rw [if_pos hv]
    have hr : 128 ≤ r := by
      have : 0 ≤ r := by
        unfold Lib.validRune at hv
        simp at hv
        omega
      omega
    obtain ⟨h2, h4⟩ := encode_two r hr
    refine (indexRune_core s (Utf8.encode r) r ((Utf8.encode r).size - 1) w hs hr h1 hv (by omega) (by omega) (by omega) (run_rune_string r)).mono ?_
    rintro e w' ⟨h1, n, rfl⟩
    exact ⟨h1, ⟨rfl, rfl, rfl, Nat.le_refl _, fun _ _ => rfl⟩⟩
  · rw [if_neg hv]
    exact (indexRune_bad s r w h0 h1 (eq_false_of_ne_true hv)).mono fun e w' ⟨h1, h2⟩ => ⟨h1, h2 ▸ Below.refl _ _⟩
set_option maxHeartbeats 800000 in
theorem gContainsRune (s : ByteArray) (r : Int) (w : World) (hs : s.size < 4294967281) :
    Calls Tryd.prog 132 #[.string s, .int .i32 r] w fun e w' => e = .returned (.bool (decide (0 ≤ irOf s r))) ∧ Below w.heap.size w w' := by
  have H := Lib.hid (gIndexRune s r w hs)
  go_enter Tryd.func132, Tryd.ntmps132
  go_wp2_with (go_at_call 75; refine H.out.mono ?_; rintro e w' ⟨rfl, hB⟩)
  go_ret
  exact ⟨rfl, hB⟩
end Go.Proofs.YthnbifkcbeldmaaDoor
