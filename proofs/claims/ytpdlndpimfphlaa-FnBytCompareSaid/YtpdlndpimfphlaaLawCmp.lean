/- The laws FnBytCompare and FnAlgCompare: the walk of each returns true. -/
import Derived.Test.YtpdlndpimfphlaaCmpB
namespace Go.Proofs.Ytpdlndpimfphlaa
open Go.RowKit Go.Lib
set_option linter.unusedVariables false

set_option maxHeartbeats 800000 in
theorem implBytCompare (b1 o1 c1 b2 o2 c2 : Nat) (a b : ByteArray) (w : World) (ha : a.size < 4294967296) (hb : b.size < 4294967296) (ra : Row w b1 o1 a) (rb : Row w b2 o2 b) :
    Calls Try.prog 19 #[.slice (some ⟨b1, o1, none⟩) a.size c1, .slice (some ⟨b2, o2, none⟩) b.size c2] w fun e w' => e = .returned (.int .i64 (cmpB a b)) ∧ Below w.heap.size w w' := by
  go_enter Try.func19, Try.ntmps19
  go_wp2_with fail
  refine (clone b1 o1 c1 a _ (by omega) ra).mono ?_
  rintro e w1 ⟨g1, cap1, rfl, p1, p2, p3, p4, k1, r1, bel1⟩
  go_wp2_with fail
  refine (clone b2 o2 c2 b _ (by omega) (rb.later bel1)).mono ?_
  rintro e w2 ⟨g2, cap2, rfl, q1, q2, q3, q4, k2, r2, bel2⟩
  go_wp2_with (first | (go_at_call 54; refine (compareRows _ _ _ _ _ _ a b (by omega) (by omega) (by omega) _ (k1.later bel2 p4) k2 (r1.later bel2) r2).mono ?_; rintro e w' ⟨rfl, n, rfl⟩) | go_in)
  go_ret
  exact ⟨rfl, below_drewN (bel1.trans (bel2.mono (by omega))) n⟩

set_option maxHeartbeats 800000 in
theorem equalRows (b1 o1 c1 b2 o2 c2 : Nat) (a b : ByteArray) (w : World) (ra : Row w b1 o1 a) (rb : Row w b2 o2 b) :
    Calls Try.prog 46 #[.slice (some ⟨b1, o1, none⟩) a.size c1, .slice (some ⟨b2, o2, none⟩) b.size c2] w fun e w' => e = .returned (.bool (a.toList == b.toList)) ∧ w = w' := by
  have h1 := hback w b1 o1 c1 a ra
  have h2 := hback w b2 o2 c2 b rb
  go_enter Try.func46, Try.ntmps46
  go_wp2_with fail
  go_ret
  exact ⟨rfl, rfl⟩

set_option maxHeartbeats 800000 in
theorem implBytEqual (b1 o1 c1 b2 o2 c2 : Nat) (a b : ByteArray) (w : World) (ha : a.size < 4294967296) (hb : b.size < 4294967296) (ra : Row w b1 o1 a) (rb : Row w b2 o2 b) :
    Calls Try.prog 21 #[.slice (some ⟨b1, o1, none⟩) a.size c1, .slice (some ⟨b2, o2, none⟩) b.size c2] w fun e w' => e = .returned (.bool (a.toList == b.toList)) ∧ Below w.heap.size w w' := by
  go_enter Try.func21, Try.ntmps21
  go_wp2_with fail
  refine (clone b1 o1 c1 a _ (by omega) ra).mono ?_
  rintro e w1 ⟨g1, cap1, rfl, p1, p2, p3, p4, k1, r1, bel1⟩
  go_wp2_with fail
  refine (clone b2 o2 c2 b _ (by omega) (rb.later bel1)).mono ?_
  rintro e w2 ⟨g2, cap2, rfl, q1, q2, q3, q4, k2, r2, bel2⟩
  go_wp2_with (go_at_call 46; refine (equalRows _ _ _ _ _ _ a b _ (r1.later bel2) r2).mono ?_; rintro e w' ⟨rfl, rfl⟩)
  go_ret
  exact ⟨rfl, bel1.trans (bel2.mono (by omega))⟩

set_option maxHeartbeats 800000 in
theorem implAlgCompare (b1 o1 c1 b2 o2 c2 : Nat) (a b : ByteArray) (w : World) (ha : a.size < 4294967296) (hb : b.size < 4294967296) (ra : Row w b1 o1 a) (rb : Row w b2 o2 b) :
    Calls Try.prog 30 #[.slice (some ⟨b1, o1, none⟩) a.size c1, .slice (some ⟨b2, o2, none⟩) b.size c2] w fun e w' => e = .returned (.int .i64 (cmpB a b)) ∧ Below w.heap.size w w' := by
  go_enter Try.func30, Try.ntmps30
  go_wp2_with fail
  refine (clone b1 o1 c1 a _ (by omega) ra).mono ?_
  rintro e w1 ⟨g1, cap1, rfl, p1, p2, p3, p4, k1, r1, bel1⟩
  go_wp2_with fail
  refine (clone b2 o2 c2 b _ (by omega) (rb.later bel1)).mono ?_
  rintro e w2 ⟨g2, cap2, rfl, q1, q2, q3, q4, k2, r2, bel2⟩
  go_wp2_with (go_at_call 54; refine (compareRows _ _ _ _ _ _ a b (by omega) (by omega) (by omega) _ (k1.later bel2 p4) k2 (r1.later bel2) r2).mono ?_; rintro e w' ⟨rfl, n, rfl⟩)
  go_ret
  exact ⟨rfl, below_drewN (bel1.trans (bel2.mono (by omega))) n⟩

theorem implAlgCompareString (a b : ByteArray) (ha : a.size < 4294967296) (hb : b.size < 4294967296) (w : World) :
    Calls Try.prog 31 #[.string a, .string b] w fun e w' => e = .returned (.int .i64 (cmpB a b)) ∧ ∃ n, w' = w.drewN n := by
  go_enter Try.func31, Try.ntmps31
  go_wp2_with (first | (go_at_call 63; refine (cmpString a b (by omega) (by omega) _).mono ?_; rintro e w' ⟨rfl, n, rfl⟩) | go_in)
  go_ret
  exact ⟨rfl, _, rfl⟩

set_option maxHeartbeats 800000 in
theorem walk_FnAlgCompare (a0 a1 : ByteArray) (w : World) (w0 : a0.size ≤ maxLen) (w1 : a1.size ≤ maxLen) :
    Calls Try.prog 10 #[.string a0, .string a1] w fun e w' => e = .returned (.bool true) ∧ Below w.heap.size w w' := by
  unfold maxLen at w0 w1
  by_cases h0 : 2147483647 < a0.size
  · go_enter Try.func10, Try.ntmps10
    go_wp2
    go_ret
    exact ⟨rfl, Below.refl _ _⟩
  by_cases h1 : 2147483647 < a1.size
  · go_enter Try.func10, Try.ntmps10
    go_wp2
    go_ret
    exact ⟨rfl, Below.refl _ _⟩
  have hcv := hconv
  have hab : (cmpB ⟨#[97]⟩ ⟨#[98]⟩ == -1) = true := by decide
  go_enter Try.func10, Try.ntmps10
  go_wp2_with fail
  refine (seCompare _ _ (by omega) (by omega) _).mono ?_
  rintro e w' ⟨rfl, n, rfl⟩
  have hv : Below w.heap.size w (w.drewN n) := below_drewN (Below.refl _ _) n
  generalize w.drewN n = v at *
  go_wp2_with fail
  refine (implAlgCompare _ _ _ _ _ _ a0 a1 _ (by omega) (by omega) ?_ ?_).mono ?_
  · exact ((Row.new _ _ _ _ _).alloc _).drew.drew
  · exact (Row.new1 _ _ _ _ _ _ (by simp)).drew.drew
  rintro e w3 ⟨rfl, hb⟩
  have hb3 := hv.trans ((below_conv2 _ _ _ _ hb).mono hv.size)
  clear hb hv
  go_wp2_with fail
  refine (implAlgCompareString _ _ (by omega) (by omega) _).mono ?_
  rintro e w' ⟨rfl, n2, rfl⟩
  go_wp2_with fail
  refine (implAlgCompareString _ _ (by decide) (by decide) _).mono ?_
  rintro e w' ⟨rfl, n3, rfl⟩
  go_wp2_with fail
  go_ret
  exact ⟨rfl, below_drewN hb3 _⟩

theorem bytes_eq (a b : ByteArray) : ((a.toList == b.toList) == (a.toList == b.toList)) = true := by simp
set_option maxHeartbeats 1600000 in
theorem walk_FnBytCompare (a0 a1 : ByteArray) (w : World) (w0 : a0.size ≤ maxLen) (w1 : a1.size ≤ maxLen) :
    Calls Try.prog 6 #[.string a0, .string a1] w fun e w' => e = .returned (.bool true) ∧ Below w.heap.size w w' := by
  unfold maxLen at w0 w1
  by_cases h0 : 2147483647 < a0.size
  · go_enter Try.func6, Try.ntmps6
    go_wp2
    go_ret
    exact ⟨rfl, Below.refl _ _⟩
  by_cases h1 : 2147483647 < a1.size
  · go_enter Try.func6, Try.ntmps6
    go_wp2
    go_ret
    exact ⟨rfl, Below.refl _ _⟩
  have hcv := hconv
  have hab : (cmpB ⟨#[97]⟩ ⟨#[98]⟩ == -1) = true := by decide
  have ka := kc1
  have kb := kc2
  go_enter Try.func6, Try.ntmps6
  go_wp2_with fail
  refine (implBytCompare _ _ _ _ _ _ a0 a1 _ (by omega) (by omega) ?_ ?_).mono ?_
  · exact ((Row.new _ _ _ _ _).alloc _).drew.drew
  · exact (Row.new1 _ _ _ _ _ _ (by simp)).drew.drew
  rintro e w3 ⟨rfl, hb⟩
  have hb3 := below_conv2 _ _ _ _ hb
  clear hb
  go_wp2_with fail
  refine (seCompare _ _ (by omega) (by omega) _).mono ?_
  rintro e w' ⟨rfl, n, rfl⟩
  have hv := below_drewN hb3 n
  clear hb3
  generalize w3.drewN n = v at *
  go_wp2_with fail
  refine (implBytEqual _ _ _ _ _ _ a0 a1 _ (by omega) (by omega) ?_ ?_).mono ?_
  · exact ((Row.new _ _ _ _ _).alloc _).drew.drew
  · exact (Row.new1 _ _ _ _ _ _ (by simp)).drew.drew
  rintro e w4 ⟨rfl, hb⟩
  have hb4 := hv.trans ((below_conv2 _ _ _ _ hb).mono hv.size)
  clear hb hv
  have hq := bytes_eq a0 a1
  go_wp2_with fail
  refine (implBytCompare _ _ _ _ _ _ ⟨#[97]⟩ ⟨#[98]⟩ _ (by decide) (by decide) ?_ ?_).mono ?_
  · exact (Row.const w4 ⟨#[97]⟩ #[.int .u8 97] (by kernel_rfl) _ _).alloc _
  · exact Row.const1 (w4.alloc _) ⟨#[98]⟩ #[.int .u8 98] (by kernel_rfl) _ _ _ (by simp)
  rintro e w5 ⟨rfl, hb⟩
  have hb5 := hb4.trans ((below_const2 _ _ _ _ hb).mono hb4.size)
  clear hb hb4
  go_wp2_with fail
  go_ret
  exact ⟨rfl, hb5⟩
end Go.Proofs.Ytpdlndpimfphlaa
