/- The laws FnHashJoin and FnHashBack: the walk of each returns true. -/
import Derived.Test.YtpdlndpimfphlaaHash
import Derived.RowKit3
import Derived.Outline
import Derived.Lib.Hide
namespace Go.Proofs.Ytpdlndpimfphlaa
open Go.Shelf Go.RowKit Go.Lib

def hv (s : ByteArray) : Int := RK.H s.data.toList % 4294967296
def pv (s : ByteArray) : Int := 16777619 ^ s.size % 4294967296

theorem implHash (s : ByteArray) (hs : s.size < 4611686018427387904) (w : World) :
    Calls Try.prog 17 #[.string s] w fun e w' => e = .returned (.tuple #[.int .u32 (hv s), .int .u32 (pv s)]) ∧ w = w' := by
  go_enter Try.func17, Try.ntmps17
  go_wp2_with (first | (go_at_call 60; refine (hashStr _ hs _).mono ?_; rintro e w' ⟨rfl, rfl⟩) | go_in)
  go_ret2
  exact ⟨rfl, rfl⟩

theorem data_append (a b : ByteArray) : (a ++ b).data.toList = a.data.toList ++ b.data.toList := by simp
theorem H_append (a : List UInt8) : ∀ b : List UInt8, RK.H (a ++ b) = RK.H a * 16777619 ^ b.length + RK.H b := by
  intro b
  unfold RK.H
  rw [List.foldl_append, RK.fold_acc]
theorem hv_append (a b : ByteArray) : hv (a ++ b) = (hv a * pv b % 4294967296 + hv b) % 4294967296 := by
  unfold hv pv
  rw [data_append, H_append, RK.mul_mod_left, RK.mul_mod_right, show b.data.toList.length = b.size by simp]
  omega
theorem pv_append (a b : ByteArray) : pv (a ++ b) = pv a * pv b % 4294967296 := by
  unfold pv
  rw [RK.mul_mod_left, RK.mul_mod_right, ByteArray.size_append, Int.pow_add]
theorem hv_a : hv ⟨#[97]⟩ = 97 := by decide

set_option maxHeartbeats 400000 in
theorem walk_FnHashJoin (a0 a1 : ByteArray) (w0 : a0.size ≤ maxLen) (w1 : a1.size ≤ maxLen) (w : World) :
    Calls Try.prog 4 #[.string a0, .string a1] w fun e w' => e = .returned (.bool true) ∧ Grown w w' := by
  unfold maxLen at w0 w1
  by_cases h0 : 2147483647 < a0.size
  · go_enter Try.func4, Try.ntmps4
    go_wp2
    go_ret
    exact ⟨rfl, Grown.refl _⟩
  by_cases h1 : 2147483647 < a1.size
  · go_enter Try.func4, Try.ntmps4
    go_wp2
    go_ret
    exact ⟨rfl, Grown.refl _⟩
  go_enter Try.func4, Try.ntmps4
  go_wp2_with fail
  refine (implHash _ (by omega) _).mono ?_
  rintro e w' ⟨rfl, rfl⟩
  go_wp2_with fail
  refine (implHash _ (by omega) _).mono ?_
  rintro e w' ⟨rfl, rfl⟩
  go_wp2_with fail

  refine (implHash _ (by rw [ByteArray.size_append]; omega) _).mono ?_
  rintro e w' ⟨rfl, rfl⟩
  go_wp2_with fail
  refine (implHash _ (by decide) _).mono ?_
  rintro e w' ⟨rfl, rfl⟩
  have f1 : (hv (a0 ++ a1) == (hv a0 * pv a1 + hv a1) % 4294967296) = true := beq_iff_eq.2 (by rw [hv_append]; omega)
  have f2 : (pv (a0 ++ a1) == pv a0 * pv a1 % 4294967296) = true := beq_iff_eq.2 (pv_append a0 a1)
  have f3 : (hv ⟨#[97]⟩ == 97) = true := beq_iff_eq.2 hv_a
  go_wp2_with fail
  go_ret
  exact ⟨rfl, Grown.refl _⟩
theorem implHashBack (s : ByteArray) (hs : s.size < 4611686018427387904) (w : World) :
    Calls Try.prog 18 #[.string s] w fun e w' => e = .returned (.tuple #[.int .u32 (hv ⟨s.data.toList.reverse.toArray⟩), .int .u32 (pv s)]) ∧ w = w' := by
  go_enter Try.func18, Try.ntmps18
  go_wp2_with (first | (go_at_call 61; refine (hashStrRev _ hs _).mono ?_; rintro e w' ⟨rfl, rfl⟩) | go_in)
  go_ret2
  exact ⟨rfl, rfl⟩

theorem turn_step (s t : ByteArray) (k : Nat) (h1 : 1 ≤ k) (hk : k ≤ s.size) (h : t.data.toList = (s.data.toList.drop k).reverse) :
    (t ++ s.extract (k - 1) k).data.toList = (s.data.toList.drop (k - 1)).reverse := by
  rw [data_append, h, Lib.extract_data, LastIndex.drop_pred s k h1 hk, List.reverse_cons, show k - (k - 1) = 1 by omega]
  rfl

set_option maxHeartbeats 800000 in
theorem walk_FnHashBack (a0 : ByteArray) (w0 : a0.size ≤ maxLen) (w : World) :
    Calls Try.prog 5 #[.string a0] w fun e w' => e = .returned (.bool true) ∧ Grown w w' := by
  unfold maxLen at w0
  by_cases h0 : 2147483647 < a0.size
  · go_enter Try.func5, Try.ntmps5
    go_wp2
    go_ret
    exact ⟨rfl, Grown.refl _⟩
  go_enter Try.func5, Try.ntmps5
  go_wp2_with fail
  go_loop [3, 4] (fun vt vi => ∃ (k : Nat) (t : ByteArray), k ≤ a0.size ∧ vi = .int .i64 ((k : Int) - 1) ∧ vt = .string t ∧ Hid (t.data.toList = (a0.data.toList.drop k).reverse)) (fun _ vi => ((RowKit.intOf vi) + 1).toNat)
  case atStart => exact ⟨a0.size, ByteArray.empty, Nat.le_refl _, rfl, rfl, by show _ = _; rw [List.drop_of_length_le (by simp)]; rfl⟩
  case round =>
    obtain ⟨k, t, hk, rfl, rfl, hh⟩ := hrel
    by_cases k1 : 1 ≤ k
    · have hsl : ∀ w, (Instr.slice 9 (.string a0) (some (.int .i64 ((k : Int) - 1))) (some (.int .i64 (k : Int))) none).run Try.prog w = .ok (.string (a0.extract (k - 1) k)) w := fun w => by
        rw [run_slice_string w 9 a0 .i64 .i64 _ _ Try.underlying9 (by omega) (by omega) (by omega), show ((k : Int) - 1).toNat = k - 1 by omega, Int.toNat_natCast]
      have H1 := Lib.hid (turn_step a0 t k k1 hk hh.out)
      have htz : t.size ≤ a0.size := by have := congrArg List.length hh.out; simp at this; omega
      go_wp2_with fail
      go_round
      case rel => exact ⟨k - 1, _, by omega, by congr 1; omega, rfl, H1⟩
      case measure => simp [RowKit.intOf]; omega
    · have k0 : k = 0 := by omega
      subst k0
      have ht : t.data.toList = a0.data.toList.reverse := by have := hh.out; rwa [List.drop_zero] at this
      have hsz : t.size = a0.size := by have := congrArg List.length ht; simpa using this
      have f1 : (hv ⟨a0.data.toList.reverse.toArray⟩ == hv t) = true := beq_iff_eq.2 (by unfold hv; rw [ht])
      have f2 : (pv a0 == pv t) = true := beq_iff_eq.2 (by unfold pv; rw [hsz])
      have f3 : (hv ⟨#[97]⟩ == 97) = true := beq_iff_eq.2 hv_a
      have F1 := Lib.hid f1
      clear ht f1
      go_wp2_with fail
      refine (implHashBack _ (by omega) _).mono ?_
      rintro e w' ⟨rfl, rfl⟩
      go_wp2_with fail
      refine (implHash _ (by omega) _).mono ?_
      rintro e w' ⟨rfl, rfl⟩
      go_wp2_with fail
      refine (implHash _ (by decide) _).mono ?_
      rintro e w' ⟨rfl, rfl⟩
      have f1 := F1.out
      clear hsz
      go_wp2_with fail
      all_goals (go_ret; exact ⟨rfl, Grown.refl _⟩)
end Go.Proofs.Ytpdlndpimfphlaa
