/- Split, SplitAfter, SplitAfterN and their callers: the pieces of a text. SeSame. -/
import Derived.Test.YthnbifkcbeldmaaDoorExplode
namespace Go.Proofs.YthnbifkcbeldmaaDoor
open Go.RowKit Go.Lib
set_option linter.unusedVariables false

theorem chars_pieces (s sep : ByteArray) (n : Int) (keep : Bool) (N : Nat) (h0 : n ≠ 0) (hp : sep.size = 0) (hway : n < 0 ∧ N = runeCount s ∨ (¬ n < 0 ∧ ((runeCount s : Nat) : Int) < n ∧ N = runeCount s) ∨ (¬ n < 0 ∧ ¬ ((runeCount s : Nat) : Int) < n ∧ n = N)) :
    chars s N = pieces s sep n keep := by
  have hlen := starts_length s
  have htl : (starts s).tail.length = (starts s).length - 1 := by simp
  have hle := runeCount_le s
  by_cases hs : s.size = 0
  · have : N = 0 := by rcases hway with h | h | h <;> omega
    unfold chars pieces
    rw [if_pos this, if_pos (.inr ⟨hs, hp⟩)]
  · have hpos : 1 ≤ runeCount s := by
      rw [← hlen, ← tailStarts_zero, tailStarts_step s 0 (by omega)]; simp
    have hN : N ≠ 0 := by rcases hway with h | h | h <;> omega
    unfold chars pieces
    rw [if_neg hN, if_neg (by simp only [h0, false_or]; omega), hp]
    have hsv : (if keep then 0 else 0) = 0 := by cases keep <;> rfl
    rw [hsv]
    congr 1
    unfold breaks cutMost
    rw [if_pos hp]
    rcases hway with ⟨h1, h2⟩ | ⟨h1, h2, h3⟩ | ⟨h1, h2, h3⟩
    · rw [if_pos (by omega), List.take_of_length_le (by omega)]
    · rw [if_neg (by omega), List.take_of_length_le (by omega), List.take_of_length_le (by omega)]
    · rw [if_neg (by omega)]
      congr 1
      omega
theorem pieces_text (s sep : ByteArray) (n : Int) (keep : Bool) (h0 : n ≠ 0) (hp : 1 ≤ sep.size) : cutPieces s sep.size (if keep then sep.size else 0) (breaks s sep (n - 1)) 0 = pieces s sep n keep := by
  unfold pieces
  exact (if_neg (show ¬ (n = 0 ∨ (s.size = 0 ∧ sep.size = 0)) by omega)).symm
theorem pieces_len (s sep : ByteArray) (n : Int) (keep : Bool) : (pieces s sep n keep).length ≤ s.size + 1 := by
  unfold pieces
  split
  · simp
  · rw [cutPieces_length]
    have := breaks_len s sep (n - 1)
    omega

set_option maxHeartbeats 1600000 in
theorem genSplit_all (s sep : ByteArray) (n : Int) (keep : Bool) (save : Nat) (hsave : save = if keep then sep.size else 0) (w : World) (hs : s.size ≤ 2147483647) (hp : sep.size ≤ 2147483647) (hn : n ≤ 9223372036854775807)
    (hT : Utf8Tabs 2 3 w) :
    Calls Tryd.prog 91 #[.string s, .string sep, .int .i64 save, .int .i64 n] w (RetStrs w (pieces s sep n keep)) := by
  by_cases h0 : n = 0
  · have E : pieces s sep n keep = [] := by unfold pieces; rw [if_pos (.inl h0)]
    rw [E]
    subst h0
    clear hT hn E hsave
    go_enter Tryd.func91, Tryd.ntmps91
    go_wp2_with fail
    go_ret
    exact ⟨none, 0, rfl, fun i h => absurd h (Nat.not_lt_zero _), Below.refl _ _⟩
  by_cases hz : sep.size = 0
  · obtain ⟨N, hN⟩ : ∃ N : Nat, n < 0 ∧ N = runeCount s ∨ (¬ n < 0 ∧ ((runeCount s : Nat) : Int) < n ∧ N = runeCount s) ∨ (¬ n < 0 ∧ ¬ ((runeCount s : Nat) : Int) < n ∧ n = N) := by
      by_cases h1 : n < 0
      · exact ⟨_, .inl ⟨h1, rfl⟩⟩
      · by_cases h2 : ((runeCount s : Nat) : Int) < n
        · exact ⟨_, .inr (.inl ⟨h1, h2, rfl⟩)⟩
        · exact ⟨n.toNat, .inr (.inr ⟨h1, h2, by omega⟩)⟩
    have H := Lib.hid (explode_core s n (runeCount s) N w hs rfl hN hn hT)
    rw [chars_pieces s sep n keep N h0 hz hN] at H
    have he : sep.toList.isEmpty = true := by rw [empty_of]; simpa using hz
    have hne : (n == 0) = false := beq_eq_false_iff_ne.2 h0
    clear hN hz h0 hsave
    generalize pieces s sep n keep = P at *
    go_enter Tryd.func91, Tryd.ntmps91
    go_wp2_with (go_at_call 124; refine H.out.mono ?_; rintro e w' ⟨a, cap, rfl, hin, hB⟩)
    go_ret
    exact ⟨a, cap, rfl, hin, hB⟩
  · have := genSplit_text s sep save n w hs hp (by omega) (by rw [hsave]; split <;> omega) h0 hn
    rw [← pieces_text s sep n keep h0 (by omega), ← hsave]
    exact this

set_option maxHeartbeats 1600000 in
theorem seSame (a1 a2 : Option Addr) (c1 c2 : Nat) (l : List ByteArray) (w : World) (hl : l.length ≤ 4294967296) (h1 : StrIn w a1 l) (h2 : StrIn w a2 l) :
    Calls Tryd.prog 24 #[.slice a1 l.length c1, .slice a2 l.length c2] w fun e w' => e = .returned (.bool true) ∧ w = w' := by
  have H1 := Lib.hid h1
  have H2 := Lib.hid h2
  clear h1 h2
  go_enter Tryd.func24, Tryd.ntmps24
  go_wp2_with fail
  go_loopw [14] (fun i wr => ∃ k : Nat, i = .int .i64 k ∧ k ≤ l.length ∧ w = wr) (fun i _ => l.length - (RowKit.intOf i).toNat)
  case atStart => exact ⟨0, rfl, Nat.zero_le _, rfl⟩
  case round =>
    obtain ⟨k, rfl, hk, rfl⟩ := hrel
    by_cases hlt : k < l.length
    · have hltz : (k : Int) < l.length := by omega
      obtain ⟨g1, rfl, _, e1⟩ := H1.out k hlt
      obtain ⟨g2, rfl, _, e2⟩ := H2.out k hlt
      go_wp2_with fail
      go_roundw
      case rel => first | exact ⟨k + 1, rfl, by omega, rfl⟩ | exact ⟨k + 1, rfl, by omega, trivial⟩
      case measure => simp [RowKit.intOf]; omega
    · have hltz : ¬ (k : Int) < l.length := by omega
      go_wp2_with fail
      go_ret
      first | exact ⟨rfl, rfl⟩ | exact ⟨rfl, trivial⟩
set_option maxHeartbeats 1600000 in
theorem implSplitAfter (s sep : ByteArray) (w : World) (hs : s.size ≤ 2147483647) (hp : sep.size ≤ 2147483647) (hT : Utf8Tabs 2 3 w) :
    Calls Tryd.prog 28 #[.string s, .string sep] w (RetStrs w (pieces s sep (-1) true)) := by
  have H := Lib.hid (genSplit_all s sep (-1) true sep.size rfl w hs hp (by decide) hT)
  have hl : (pieces s sep (-1) true).length ≤ 4294967296 := by have := pieces_len s sep (-1) true; omega
  generalize pieces s sep (-1) true = P at *
  clear hT
  go_enter Tryd.func28, Tryd.ntmps28
  go_wp2_with (first
    | (go_at_call 91; refine H.out.mono ?_; rintro e w' ⟨a, cap, rfl, hin, hB⟩)
    | (go_at_call 53; refine (cloneS a cap P w' hl hin).mono ?_; rintro e w2 ⟨a2, cap2, rfl, hin2, hB2⟩)
    | go_in)
  go_ret
  exact ⟨a2, cap2, rfl, hin2, below2 hB hB2⟩
end Go.Proofs.YthnbifkcbeldmaaDoor
