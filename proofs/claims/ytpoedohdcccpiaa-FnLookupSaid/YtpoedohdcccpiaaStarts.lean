/- The reference's StartsAt and Index: 'occAt' and 'index' of the library. -/
import Derived.Test.YtpoedohdcccpiaaRows
import Derived.WalkKit
import Derived.WalkSpells
import Derived.WalkLawsBesides
import Derived.Lib.Walk
import Derived.Lib.Strings
import Derived.Lib.IndexBytes
import Derived.BigCall
import Derived.BigGuard
import Derived.Lib.Hide
import Derived.Outline
namespace Go.Proofs.Ytpoedohdcccpiaa
open Go.RowKit Go.Lib
set_option linter.unusedVariables false

theorem occ_far (s sub : ByteArray) (i : Nat) (h : s.size < i + sub.size) (hi : i ≤ s.size) : occAt s.data.toList sub.data.toList i = false := by
  cases ho : occAt s.data.toList sub.data.toList i with
  | false => rfl
  | true =>
    rcases occAt_room ho with h1 | h1
    · simp at h1; omega
    · have : sub.size = 0 := by simpa using congrArg List.length h1
      omega
theorem isEmpty_iff (s : ByteArray) : s.toList.isEmpty = decide (s.size = 0) := by
  rw [Lib.toList_data, Bool.eq_iff_iff, List.isEmpty_iff, decide_eq_true_iff, ← List.length_eq_zero_iff]
  have : s.data.toList.length = s.size := by simp
  rw [this]

set_option maxHeartbeats 800000 in
theorem startsAt (s sep : ByteArray) (i : Int) (hs : s.size < 4611686018427387904) (hp : sep.size < 4611686018427387904) (h0 : 0 ≤ i) (h1 : i ≤ s.size) (w : World) :
    Calls Try.prog 23 #[.string s, .int .i64 i, .string sep] w fun e w' => e = .returned (.bool (occAt s.data.toList sep.data.toList i.toNat)) ∧ w = w' := by
  obtain ⟨k, rfl⟩ := Int.eq_ofNat_of_zero_le h0
  rw [Int.toNat_natCast]
  have f1 : decide ((k : Int) < 0) = false := by simp
  have f2 : decide ((s.size : Int) < k) = false := by simp; omega
  by_cases hr : k + sep.size ≤ s.size
  · have e := Lib.hid (occ_of_piece s sep k hr)
    have f3 : decide ((s.size : Int) - k < sep.size) = false := by simp; omega
    go_enter Try.func23, Try.ntmps23
    go_wp2
    go_ret
    rw [e.out]
    exact ⟨rfl, rfl⟩
  · have e := Lib.hid (occ_far s sep k (by omega) (by omega))
    have f3 : decide ((s.size : Int) - k < sep.size) = true := by simp; omega
    go_enter Try.func23, Try.ntmps23
    go_wp2
    go_ret
    rw [e.out]
    exact ⟨rfl, rfl⟩

set_option maxHeartbeats 800000 in
theorem specIndex (s sep : ByteArray) (hs : s.size < 4611686018427387904) (hp : sep.size < 4611686018427387904) (w : World) :
    Calls Try.prog 17 #[.string s, .string sep] w fun e w' => e = .returned (.int .i64 (index s.data.toList sep.data.toList)) ∧ w = w' := by
  go_enter Try.func17, Try.ntmps17
  go_wp2
  go_loop [5] (fun vi => ∃ k : Nat, k ≤ s.size + 1 ∧ vi = .int .i64 k ∧ Hid (NoOcc s.data.toList sep.data.toList k)) (fun vi => s.size + 1 - (RowKit.intOf vi).toNat)
  case atStart => exact ⟨0, by omega, rfl, NoOcc.zero _ _⟩
  case round =>
    obtain ⟨k, hk, rfl, hh⟩ := hrel
    by_cases k1 : k ≤ s.size
    · cases ho : occAt s.data.toList sep.data.toList k with
      | true =>
        have H1 := Lib.hid (index_hit hh.out (by simpa using k1) ho)
        have Ho := Lib.hid ho
        clear ho
        go_wp2_with (go_at_call 23; refine (startsAt _ _ _ hs hp (by omega) (by omega) _).mono ?_; rintro e w' ⟨rfl, rfl⟩; rw [Int.toNat_natCast, Ho.out])
        go_ret
        rw [H1.out]
        exact ⟨rfl, rfl⟩
      | false =>
        have H1 := Lib.hid (hh.out.succ ho)
        have Ho := Lib.hid ho
        clear ho
        go_wp2_with (go_at_call 23; refine (startsAt _ _ _ hs hp (by omega) (by omega) _).mono ?_; rintro e w' ⟨rfl, rfl⟩; rw [Int.toNat_natCast, Ho.out])
        go_round
        case rel => exact ⟨k + 1, by omega, by go_num, H1⟩
        case measure => simp [RowKit.intOf]; omega
    · have H1 := Lib.hid (index_none (s := s.data.toList) (sub := sep.data.toList) (fun j hj => hh.out j (by simp at hj; omega)))
      go_wp2
      go_ret
      rw [H1.out]
      exact ⟨rfl, rfl⟩
end Go.Proofs.Ytpoedohdcccpiaa
