/- The laws FnRabinKarpLast and FnBytLastIndex: the walk of each returns true. -/
import Derived.Test.YtpdlndpimfphlaaHash
import Derived.Test.YtpdlndpimfphlaaHashB
import Derived.Test.YtpdlndpimfphlaaByteFind
namespace Go.Proofs.Ytpdlndpimfphlaa
open Go.RowKit Go.Lib
set_option linter.unusedVariables false

set_option maxHeartbeats 800000 in
theorem implRKLastBytes (g1 o1 c1 g2 o2 c2 : Nat) (s sep : ByteArray) (w : World) (h1 : 1 ≤ sep.size) (h2 : sep.size ≤ s.size) (hs : s.size < 4294967296) (r1 : Row w g1 o1 s) (r2 : Row w g2 o2 sep) :
    Calls Try.prog 23 #[.slice (some ⟨g1, o1, none⟩) s.size c1, .slice (some ⟨g2, o2, none⟩) sep.size c2] w fun e w' => e = .returned (.int .i64 (lastIndex s.data.toList sep.data.toList)) ∧ Below w.heap.size w w' := by
  go_enter Try.func23, Try.ntmps23
  go_wp2_with fail
  refine (clone g1 o1 c1 s _ (by omega) r1).mono ?_
  rintro e w1 ⟨p1, cap1, rfl, p2, p3, p4, p5, k1, q1, bel1⟩
  go_wp2_with fail
  refine (clone g2 o2 c2 sep _ (by omega) (r2.later bel1)).mono ?_
  rintro e w2 ⟨q2, cap2, rfl, q3, q4, q5, q6, k2, q7, bel2⟩
  go_wp2_with (go_at_call 48; refine (lastRKRow _ _ _ _ _ _ s sep h1 h2 p2 (by omega) _ (q1.later bel2) q7).mono ?_; rintro e w' ⟨rfl, n, rfl⟩)
  go_ret
  exact ⟨rfl, below_drewN (bel1.trans (bel2.mono (by omega))) n⟩

theorem implRKLast (s sep : ByteArray) (h1 : 1 ≤ sep.size) (h2 : sep.size ≤ s.size) (hs : s.size < 4294967296) (w : World) :
    Calls Try.prog 22 #[.string s, .string sep] w fun e w' => e = .returned (.int .i64 (lastIndex s.data.toList sep.data.toList)) ∧ w = w' := by
  go_enter Try.func22, Try.ntmps22
  go_wp2_with (go_at_call 47; refine (lastRK s sep h1 h2 (by omega) _).mono ?_; rintro e w' ⟨rfl, rfl⟩)
  go_ret
  exact ⟨rfl, rfl⟩

theorem empty_iff (s : ByteArray) : s.toList.isEmpty = decide (s.size = 0) := by
  rw [Lib.toList_data, Bool.eq_iff_iff, List.isEmpty_iff, decide_eq_true_iff, ← List.length_eq_zero_iff]
  have : s.data.toList.length = s.size := by simp
  rw [this]

set_option maxHeartbeats 1600000 in
theorem walk_FnRabinKarpLast (a0 a1 : ByteArray) (w : World) (w0 : a0.size ≤ maxLen) (w1 : a1.size ≤ maxLen) :
    Calls Try.prog 7 #[.string a0, .string a1] w fun e w' => e = .returned (.bool true) ∧ Below w.heap.size w w' := by
  unfold maxLen at w0 w1
  by_cases h0 : 2147483647 < a0.size
  · go_enter Try.func7, Try.ntmps7
    go_wp2
    go_ret
    exact ⟨rfl, Below.refl _ _⟩
  by_cases h1 : 2147483647 < a1.size
  · go_enter Try.func7, Try.ntmps7
    go_wp2
    go_ret
    exact ⟨rfl, Below.refl _ _⟩
  by_cases hz : a1.size = 0
  · have he : a1.toList.isEmpty = true := by rw [empty_iff]; simpa using hz
    clear hz
    go_enter Try.func7, Try.ntmps7
    go_wp2_with fail
    go_ret
    exact ⟨rfl, Below.refl _ _⟩
  have he : a1.toList.isEmpty = false := by rw [empty_iff]; simpa using hz
  by_cases hg : a0.size < a1.size
  · have hg' : decide ((a0.size : Int) < a1.size) = true := by simpa using hg
    go_enter Try.func7, Try.ntmps7
    go_wp2_with fail
    go_ret
    exact ⟨rfl, Below.refl _ _⟩
  have hg' : decide ((a0.size : Int) < a1.size) = false := by simpa using hg
  have hcv := hconv
  have hab : (lastIndex [97, 98] [98] == 1) = true := by decide
  have n1 : 1 ≤ a1.size := by omega
  clear hz
  go_enter Try.func7, Try.ntmps7
  go_wp2_with (first | (go_at_call 22; refine (implRKLast _ _ (by first | omega | decide) (by first | omega | decide) (by first | omega | decide) _).mono ?_; rintro e w' ⟨rfl, rfl⟩) | (go_at_call 16; refine (seLast _ _ (by omega) (by omega) _).mono ?_; rintro e w' ⟨rfl, rfl⟩))
  refine (implRKLastBytes _ _ _ _ _ _ a0 a1 _ (by omega) (by omega) (by omega) ?_ ?_).mono ?_
  · exact ((Row.new _ _ _ _ _).alloc _).drew.drew
  · exact (Row.new1 _ _ _ _ _ _ (by simp)).drew.drew
  rintro e w3 ⟨rfl, hb⟩
  have hb3 := below_conv2 _ _ _ _ hb
  clear hb
  go_wp2_with (first | (go_at_call 22; refine (implRKLast _ _ (by first | omega | decide) (by first | omega | decide) (by first | omega | decide) _).mono ?_; rintro e w' ⟨rfl, rfl⟩) | (go_at_call 16; refine (seLast _ _ (by omega) (by omega) _).mono ?_; rintro e w' ⟨rfl, rfl⟩))
  go_ret
  exact ⟨rfl, hb3⟩

set_option maxHeartbeats 800000 in
theorem equalRows2 (b1 o1 c1 b2 o2 c2 : Nat) (a b : ByteArray) (w : World) (ra : Row w b1 o1 a) (rb : Row w b2 o2 b) :
    Calls Try.prog 46 #[.slice (some ⟨b1, o1, none⟩) a.size c1, .slice (some ⟨b2, o2, none⟩) b.size c2] w fun e w' => e = .returned (.bool (a.toList == b.toList)) ∧ w = w' := by
  have h1 := hback w b1 o1 c1 a ra
  have h2 := hback w b2 o2 c2 b rb
  go_enter Try.func46, Try.ntmps46
  go_wp2_with fail
  go_ret
  exact ⟨rfl, rfl⟩

theorem b1_single (sub : ByteArray) (h1 : sub.size = 1) : (Go.Proofs.Ytpdlndpimfphlaa.b1 ((sub[0]'(by omega)).toNat : Int)).data.toList = sub.data.toList := by
  rw [LastIndex.single sub h1]
  show [((sub[0]'(by omega)).toNat : Int).toNat.toUInt8] = _
  simp

set_option maxHeartbeats 1600000 in
theorem lastIndexRow (g1 o1 c1 g2 o2 c2 : Nat) (s sub : ByteArray) (hs : s.size < 4611686018427387904) (hp : sub.size < 4611686018427387904) (hc : s.size ≤ c1) (w : World) (r1 : Row w g1 o1 s) (r2 : Row w g2 o2 sub) :
    Calls Try.prog 58 #[.slice (some ⟨g1, o1, none⟩) s.size c1, .slice (some ⟨g2, o2, none⟩) sub.size c2] w fun e w' => e = .returned (.int .i64 (lastIndex s.data.toList sub.data.toList)) ∧ ∃ n, w' = w.drewN n := by
  by_cases h0 : sub.size = 0
  · have e : sub.data.toList = [] := List.eq_nil_of_length_eq_zero (by simpa using h0)
    rw [e, LastIndex.nil, show ((s.data.toList.length : Nat) : Int) = (s.size : Int) by simp]
    have t0 : ((sub.size : Int) == 0) = true := beq_iff_eq.2 (by omega)
    clear e h0
    go_enter Try.func58, Try.ntmps58
    go_wp2_with fail
    go_ret
    exact ⟨rfl, 0, rfl⟩
  have t0 : ((sub.size : Int) == 0) = false := beq_eq_false_iff_ne.2 (by omega)
  by_cases h1 : sub.size = 1
  · have t1 : ((sub.size : Int) == 1) = true := beq_iff_eq.2 (by omega)
    have hcell := r2 0 (by omega)
    have n0 : 0 < sub.size := by omega
    have i0 : (0 : Int) < sub.size := by omega
    have e := b1_single sub h1
    have hb : ((sub[0]'(by omega)).toNat : Int) ≤ 255 := by have := (sub[0]'(by omega)).toNat_lt; omega
    rw [← e]
    have R1 := Lib.hid r1
    have hcell' : w.cell? ⟨g2, o2, none⟩ = some (.int .u8 ((sub[0]'(by omega)).toNat : Int)) := hcell
    have hx0 : (0 : Int) ≤ ((sub[0]'(by omega)).toNat : Int) := by omega
    generalize ((sub[0]'(by omega)).toNat : Int) = x at *
    clear e h1 h0 r2 r1 hcell
    go_enter Try.func58, Try.ntmps58
    go_wp2_with (go_at_call 51; refine (lastByteRow _ _ _ s _ hs (by omega) (by omega) _ R1.out).mono ?_; rintro e w' ⟨rfl, rfl⟩)
    go_ret
    exact ⟨rfl, 0, rfl⟩
  have t1 : ((sub.size : Int) == 1) = false := beq_eq_false_iff_ne.2 (by omega)
  by_cases hw : sub.size = s.size
  · have t2 : ((sub.size : Int) == s.size) = true := beq_iff_eq.2 (by omega)
    rw [← LastIndex.whole s sub hw]
    by_cases hq : sub = s
    · have te : (s.toList == sub.toList) = true := by rw [hq]; simp
      rw [if_pos hq]
      clear hw hq h0 h1
      go_enter Try.func58, Try.ntmps58
      go_wp2_with (go_at_call 46; refine (equalRows2 _ _ _ _ _ _ s sub _ r1 r2).mono ?_; rintro e w' ⟨rfl, rfl⟩)
      go_ret
      exact ⟨rfl, 0, rfl⟩
    · have te : (s.toList == sub.toList) = false := by
        cases h : (s.toList == sub.toList) with
        | false => rfl
        | true => exact absurd (LastIndex.eq_of_toList (by simpa using h)).symm hq
      rw [if_neg hq]
      clear hw hq h0 h1
      go_enter Try.func58, Try.ntmps58
      go_wp2_with (go_at_call 46; refine (equalRows2 _ _ _ _ _ _ s sub _ r1 r2).mono ?_; rintro e w' ⟨rfl, rfl⟩)
      go_ret
      exact ⟨rfl, 0, rfl⟩
  have t2 : ((sub.size : Int) == s.size) = false := beq_eq_false_iff_ne.2 (by omega)
  by_cases hg : s.size < sub.size
  · rw [LastIndex.longer _ _ (by simpa using hg)]
    have t3 : decide ((s.size : Int) < sub.size) = true := by simpa using hg
    clear hw h0 h1
    go_enter Try.func58, Try.ntmps58
    go_wp2_with fail
    go_ret
    exact ⟨rfl, 0, rfl⟩
  have t3 : decide ((s.size : Int) < sub.size) = false := by simpa using hg
  have h2 : 2 ≤ sub.size := by omega
  clear hw h0 h1
  go_enter Try.func58, Try.ntmps58
  go_wp2_with (go_at_call 48; refine (lastRKRow _ _ _ _ _ _ s sub (by omega) (by omega) hc hs _ r1 r2).mono ?_; rintro e w' ⟨rfl, n, rfl⟩)
  go_ret
  exact ⟨rfl, n, rfl⟩

set_option maxHeartbeats 800000 in
theorem implBytLastIndex (g1 o1 c1 g2 o2 c2 : Nat) (s sep : ByteArray) (w : World) (hs : s.size < 4294967296) (hp : sep.size < 4294967296) (r1 : Row w g1 o1 s) (r2 : Row w g2 o2 sep) :
    Calls Try.prog 36 #[.slice (some ⟨g1, o1, none⟩) s.size c1, .slice (some ⟨g2, o2, none⟩) sep.size c2] w fun e w' => e = .returned (.int .i64 (lastIndex s.data.toList sep.data.toList)) ∧ Below w.heap.size w w' := by
  go_enter Try.func36, Try.ntmps36
  go_wp2_with fail
  refine (clone g1 o1 c1 s _ (by omega) r1).mono ?_
  rintro e w1 ⟨p1, cap1, rfl, p2, p3, p4, p5, k1, q1, bel1⟩
  go_wp2_with fail
  refine (clone g2 o2 c2 sep _ (by omega) (r2.later bel1)).mono ?_
  rintro e w2 ⟨q2, cap2, rfl, q3, q4, q5, q6, k2, q7, bel2⟩
  go_wp2_with (go_at_call 58; refine (lastIndexRow _ _ _ _ _ _ s sep (by omega) (by omega) p2 _ (q1.later bel2) q7).mono ?_; rintro e w' ⟨rfl, n, rfl⟩)
  go_ret
  exact ⟨rfl, below_drewN (bel1.trans (bel2.mono (by omega))) n⟩

set_option maxHeartbeats 1600000 in
theorem walk_FnBytLastIndex (a0 a1 : ByteArray) (w : World) (w0 : a0.size ≤ maxLen) (w1 : a1.size ≤ maxLen) :
    Calls Try.prog 13 #[.string a0, .string a1] w fun e w' => e = .returned (.bool true) ∧ Below w.heap.size w w' := by
  unfold maxLen at w0 w1
  by_cases h0 : 2147483647 < a0.size
  · go_enter Try.func13, Try.ntmps13
    go_wp2
    go_ret
    exact ⟨rfl, Below.refl _ _⟩
  by_cases h1 : 2147483647 < a1.size
  · go_enter Try.func13, Try.ntmps13
    go_wp2
    go_ret
    exact ⟨rfl, Below.refl _ _⟩
  have hcv := hconv
  have ka := kc1
  have kb := kc2
  have hab : (lastIndex [97, 98] [98] == 1) = true := by decide
  go_enter Try.func13, Try.ntmps13
  go_wp2_with fail
  refine (implBytLastIndex _ _ _ _ _ _ a0 a1 _ (by omega) (by omega) ?_ ?_).mono ?_
  · exact ((Row.new _ _ _ _ _).alloc _).drew.drew
  · exact (Row.new1 _ _ _ _ _ _ (by simp)).drew.drew
  rintro e w3 ⟨rfl, hb⟩
  have hb3 := below_conv2 _ _ _ _ hb
  clear hb
  go_wp2_with (go_at_call 16; refine (seLast _ _ (by omega) (by omega) _).mono ?_; rintro e w' ⟨rfl, rfl⟩)
  refine (implBytLastIndex _ _ _ _ _ _ ⟨#[97, 98]⟩ ⟨#[98]⟩ _ (by decide) (by decide) ?_ ?_).mono ?_
  · exact (Row.const w3 ⟨#[97, 98]⟩ #[.int .u8 97, .int .u8 98] (by kernel_rfl) _ _).alloc _
  · exact Row.const1 (w3.alloc _) ⟨#[98]⟩ #[.int .u8 98] (by kernel_rfl) _ _ _ (by simp)
  rintro e w5 ⟨rfl, hb⟩
  have hb5 := hb3.trans ((below_const2 _ _ _ _ hb).mono hb3.size)
  clear hb hb3
  go_wp2_with fail
  go_ret
  exact ⟨rfl, hb5⟩

theorem conv_at (c : Int) (h0 : 0 ≤ c) (h1 : c ≤ 255) (w : World) (g : Nat) (h : w.cell? ⟨g, 0, none⟩ = some (.int .u8 c)) :
    (convert 24 9 (.slice (some ⟨g, 0, none⟩) 1 1)).run Try.prog w = .ok (.string (Go.Proofs.Ytpdlndpimfphlaa.b1 c)) w := by
  have := run_convert_bytes_back (P := Try.prog) w 24 9 5 ⟨g, 0, none⟩ 1 [c.toNat.toUInt8] Try.underlying24 Try.underlying5 Try.underlying9 (fun j hj => by
    have hj0 : j = 0 := by simpa using hj
    subst hj0
    have e : ((c.toNat.toUInt8).toNat : Int) = c := by simp; omega
    show _ = some (Value.int .u8 ((c.toNat.toUInt8).toNat : Int))
    rw [e]
    exact h)
  exact this

theorem implAlgIndexByte (g o cp : Nat) (s : ByteArray) (c : Int) (hs : s.size < 4294967296) (h0 : 0 ≤ c) (h1 : c ≤ 255) (w : World) (hr : Row w g o s) :
    Calls Try.prog 25 #[.slice (some ⟨g, o, none⟩) s.size cp, .int .u8 c] w fun e w' => e = .returned (.int .i64 (index s.data.toList (Go.Proofs.Ytpdlndpimfphlaa.b1 c).data.toList)) ∧ Below w.heap.size w w' := by
  go_enter Try.func25, Try.ntmps25
  go_wp2_with fail
  refine (clone g o cp s _ (by omega) hr).mono ?_
  rintro e w1 ⟨p1, cap1, rfl, p2, p3, p4, p5, k1, q1, bel1⟩
  go_wp2_with (go_at_call 49; refine (indexByteRow _ _ _ s c (by omega) h0 h1 _ q1).mono ?_; rintro e w' ⟨rfl, rfl⟩)
  go_ret
  exact ⟨rfl, bel1⟩
theorem implAlgLastIndexByte (g o cp : Nat) (s : ByteArray) (c : Int) (hs : s.size < 4294967296) (h0 : 0 ≤ c) (h1 : c ≤ 255) (w : World) (hr : Row w g o s) :
    Calls Try.prog 27 #[.slice (some ⟨g, o, none⟩) s.size cp, .int .u8 c] w fun e w' => e = .returned (.int .i64 (lastIndex s.data.toList (Go.Proofs.Ytpdlndpimfphlaa.b1 c).data.toList)) ∧ Below w.heap.size w w' := by
  go_enter Try.func27, Try.ntmps27
  go_wp2_with fail
  refine (clone g o cp s _ (by omega) hr).mono ?_
  rintro e w1 ⟨p1, cap1, rfl, p2, p3, p4, p5, k1, q1, bel1⟩
  go_wp2_with (go_at_call 51; refine (lastByteRow _ _ _ s c (by omega) h0 h1 _ q1).mono ?_; rintro e w' ⟨rfl, rfl⟩)
  go_ret
  exact ⟨rfl, bel1⟩
theorem implAlgIndexByteString (s : ByteArray) (c : Int) (hs : s.size < 4294967296) (h0 : 0 ≤ c) (h1 : c ≤ 255) (w : World) :
    Calls Try.prog 26 #[.string s, .int .u8 c] w fun e w' => e = .returned (.int .i64 (index s.data.toList (Go.Proofs.Ytpdlndpimfphlaa.b1 c).data.toList)) ∧ w = w' := by
  go_enter Try.func26, Try.ntmps26
  go_wp2_with (go_at_call 50; refine (indexByteStr s c (by omega) h0 h1 _).mono ?_; rintro e w' ⟨rfl, rfl⟩)
  go_ret
  exact ⟨rfl, rfl⟩
theorem implAlgLastIndexByteString (s : ByteArray) (c : Int) (hs : s.size < 4294967296) (h0 : 0 ≤ c) (h1 : c ≤ 255) (w : World) :
    Calls Try.prog 28 #[.string s, .int .u8 c] w fun e w' => e = .returned (.int .i64 (lastIndex s.data.toList (Go.Proofs.Ytpdlndpimfphlaa.b1 c).data.toList)) ∧ w = w' := by
  rw [← lastByte_eq s c h0 h1]
  go_enter Try.func28, Try.ntmps28
  go_wp2_with (go_at_call 52; refine (lastByteStr _ _ (by omega) _).mono ?_; rintro e w' ⟨rfl, rfl⟩)
  go_ret
  exact ⟨rfl, rfl⟩
end Go.Proofs.Ytpdlndpimfphlaa
