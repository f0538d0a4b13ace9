/- The laws FnHashJoin and FnHashBack: the walk of each returns true. -/
import Derived.Test.YtpdlndpimfphlaaHash
import Derived.RowKit3
import Derived.Outline
namespace Go.Proofs.Ytpdlndpimfphlaa
open Go.Shelf Go.RowKit Go.Lib

def hv (s : ByteArray) : Int := RK.H s.data.toList % 4294967296
def pv (s : ByteArray) : Int := 16777619 ^ s.size % 4294967296

theorem implHash (s : ByteArray) (hs : s.size < 4611686018427387904) (w : World) :
    Calls Try.prog 17 #[.string s] w fun e w' => e = .returned (.tuple #[.int .u32 (hv s), .int .u32 (pv s)]) ∧ w = w' := by
  go_enter Try.func17, Try.ntmps17
  go_wp2_with (first | (go_at_call 60; refine (hashStr _ hs _).mono ?_; rintro e w' ⟨rfl, rfl⟩) | go_in)
  go_ret2
  exact ⟨rfl, rfl⟩

theorem data_append (a b : ByteArray) : (a ++ b).data.toList = a.data.toList ++ b.data.toList := by simp
theorem H_append (a : List UInt8) : ∀ b : List UInt8, RK.H (a ++ b) = RK.H a * 16777619 ^ b.length + RK.H b := by
  intro b
  unfold RK.H
  rw [List.foldl_append, RK.fold_acc]
theorem hv_append (a b : ByteArray) : hv (a ++ b) = (hv a * pv b % 4294967296 + hv b) % 4294967296 := by
  unfold hv pv
  rw [data_append, H_append, RK.mul_mod_left, RK.mul_mod_right, show b.data.toList.length = b.size by simp]
  omega
theorem pv_append (a b : ByteArray) : pv (a ++ b) = pv a * pv b % 4294967296 := by
  unfold pv
  rw [RK.mul_mod_left, RK.mul_mod_right, ByteArray.size_append, Int.pow_add]
theorem hv_a : hv ⟨#[97]⟩ = 97 := by decide

set_option maxHeartbeats 400000 in
theorem walk_FnHashJoin (a0 a1 : ByteArray) (w0 : a0.size ≤ maxLen) (w1 : a1.size ≤ maxLen) (w : World) :
    Calls Try.prog 4 #[.string a0, .string a1] w fun e w' => e = .returned (.bool true) ∧ Grown w w' := by
  unfold maxLen at w0 w1
  by_cases h0 : 2147483647 < a0.size
  · go_enter Try.func4, Try.ntmps4
    go_wp2
    go_ret
    exact ⟨rfl, Grown.refl _⟩
  by_cases h1 : 2147483647 < a1.size
  · go_enter Try.func4, Try.ntmps4
    go_wp2
    go_ret
    exact ⟨rfl, Grown.refl _⟩
  go_enter Try.func4, Try.ntmps4
  go_wp2_with fail
  refine (implHash _ (by omega) _).mono ?_
  rintro e w' ⟨rfl, rfl⟩
  go_wp2_with fail
  refine (implHash _ (by omega) _).mono ?_
  rintro e w' ⟨rfl, rfl⟩
  go_wp2_with fail

  refine (implHash _ (by rw [ByteArray.size_append]; omega) _).mono ?_
  rintro e w' ⟨rfl, rfl⟩
  go_wp2_with fail
  refine (implHash _ (by decide) _).mono ?_
  rintro e w' ⟨rfl, rfl⟩
  have f1 : (hv (a0 ++ a1) == (hv a0 * pv a1 + hv a1) % 4294967296) = true := beq_iff_eq.2 (by rw [hv_append]; omega)
  have f2 : (pv (a0 ++ a1) == pv a0 * pv a1 % 4294967296) = true := beq_iff_eq.2 (pv_append a0 a1)
  have f3 : (hv ⟨#[97]⟩ == 97) = true := beq_iff_eq.2 hv_a
  go_wp2_with fail
  go_ret
  exact ⟨rfl, Grown.refl _⟩
end Go.Proofs.Ytpdlndpimfphlaa
