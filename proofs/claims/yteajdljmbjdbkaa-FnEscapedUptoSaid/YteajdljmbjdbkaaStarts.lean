/- The reference's StartsAt and Index: 'occAt' and 'index' of the library. -/
import Derived.Test.YteajdljmbjdbkaaRows
import Derived.WalkKit
import Derived.WalkSpells
import Derived.WalkLawsBesides
import Derived.Lib.Walk
import Derived.Lib.Strings
import Derived.Lib.IndexBytes
import Derived.BigCall
import Derived.BigGuard
import Derived.Lib.Hide
import Derived.Outline
namespace Go.Proofs.Yteajdljmbjdbkaa
open Go.RowKit Go.Lib
set_option linter.unusedVariables false

theorem occ_far (s sub : ByteArray) (i : Nat) (h : s.size < i + sub.size) (hi : i ≤ s.size) : occAt s.data.toList sub.data.toList i = false := by
  cases ho : occAt s.data.toList sub.data.toList i with
  | false => rfl
  | true =>
    rcases occAt_room ho with h1 | h1
    · simp at h1; omega
    · have : sub.size = 0 := by simpa using congrArg List.length h1
      omega
theorem isEmpty_iff (s : ByteArray) : s.toList.isEmpty = decide (s.size = 0) := by
  rw [Lib.toList_data, Bool.eq_iff_iff, List.isEmpty_iff, decide_eq_true_iff, ← List.length_eq_zero_iff]
  have : s.data.toList.length = s.size := by simp
  rw [this]

set_option maxHeartbeats 800000 in
theorem startsAt (s sep : ByteArray) (i : Int) (hs : s.size < 4611686018427387904) (hp : sep.size < 4611686018427387904) (h0 : 0 ≤ i) (h1 : i ≤ s.size) (w : World) :
    Calls Try.prog 41 #[.string s, .int .i64 i, .string sep] w fun e w' => e = .returned (.bool (occAt s.data.toList sep.data.toList i.toNat)) ∧ w = w' := by
  obtain ⟨k, rfl⟩ := Int.eq_ofNat_of_zero_le h0
  rw [Int.toNat_natCast]
  have f1 : decide ((k : Int) < 0) = false := by simp
  have f2 : decide ((s.size : Int) < k) = false := by simp; omega
  by_cases hr : k + sep.size ≤ s.size
  · have e := Lib.hid (occ_of_piece s sep k hr)
    have f3 : decide ((s.size : Int) - k < sep.size) = false := by simp; omega
    go_enter Try.func41, Try.ntmps41
    go_wp2
    go_ret
    rw [e.out]
    exact ⟨rfl, rfl⟩
  · have e := Lib.hid (occ_far s sep k (by omega) (by omega))
    have f3 : decide ((s.size : Int) - k < sep.size) = true := by simp; omega
    go_enter Try.func41, Try.ntmps41
    go_wp2
    go_ret
    rw [e.out]
    exact ⟨rfl, rfl⟩

end Go.Proofs.Yteajdljmbjdbkaa
