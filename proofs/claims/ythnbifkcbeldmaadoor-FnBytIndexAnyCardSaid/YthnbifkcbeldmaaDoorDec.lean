/- Plain: what the decoding of UTF-8 gives, class by class of the first byte. -/
import Derived.Lib.DecodeN
namespace Go.Proofs.YthnbifkcbeldmaaDoor
open Go.Lib
theorem dn2_ok (n b0 b1 b2 b3 : Nat) (h1 : 192 ≤ b0) (h2 : b0 < 224) (hn : 1 < n) (h3 : 128 ≤ b1) (h4 : b1 < 192) (hc : 128 ≤ (b0 - 192) * 64 + (b1 - 128)) : decodeN n b0 b1 b2 b3 = ((b0 - 192) * 64 + (b1 - 128), 2) := by
  unfold decodeN
  rw [if_neg (by omega), if_pos (by omega), if_pos (by omega)]
  refine Prod.ext ?_ rfl
  simp only []
  omega
theorem dn2_low (n b0 b1 b2 b3 : Nat) (h1 : 192 ≤ b0) (h2 : b0 < 224) (hc : (b0 - 192) * 64 + (b1 - 128) < 128) (h3 : 128 ≤ b1) (h4 : b1 < 192) : decodeN n b0 b1 b2 b3 = (65533, 1) := by
  unfold decodeN
  rw [if_neg (by omega)]
  by_cases h : 1 < n
  · rw [if_pos (by omega), if_neg (by omega)]
  · rw [if_neg (by omega), if_neg (by omega), if_neg (by omega)]
theorem dn2_bad (n b0 b1 b2 b3 : Nat) (h1 : 192 ≤ b0) (h2 : b0 < 224) (hc : n ≤ 1 ∨ b1 < 128 ∨ 192 ≤ b1) : decodeN n b0 b1 b2 b3 = (65533, 1) := by
  unfold decodeN
  rw [if_neg (by omega), if_neg (by omega), if_neg (by omega), if_neg (by omega)]
theorem dn3_ok (n b0 b1 b2 b3 : Nat) (h1 : 224 ≤ b0) (h2 : b0 < 240) (hn : 2 < n) (h3 : 128 ≤ b1) (h4 : b1 < 192) (h5 : 128 ≤ b2) (h6 : b2 < 192) (hc : 2048 ≤ ((b0 - 224) * 64 + (b1 - 128)) * 64 + (b2 - 128))
    (hv : ((b0 - 224) * 64 + (b1 - 128)) * 64 + (b2 - 128) < 55296 ∨ 57344 ≤ ((b0 - 224) * 64 + (b1 - 128)) * 64 + (b2 - 128)) : decodeN n b0 b1 b2 b3 = (((b0 - 224) * 64 + (b1 - 128)) * 64 + (b2 - 128), 3) := by
  unfold decodeN
  rw [if_neg (by omega), if_neg (by omega), if_pos (by omega), if_pos (by omega)]
  refine Prod.ext ?_ rfl
  simp only []
  omega
theorem dn3_no (n b0 b1 b2 b3 : Nat) (h1 : 224 ≤ b0) (h2 : b0 < 240) (h3 : 128 ≤ b1) (h4 : b1 < 192) (h5 : 128 ≤ b2) (h6 : b2 < 192) (hc : ((b0 - 224) * 64 + (b1 - 128)) * 64 + (b2 - 128) < 2048 ∨ (55296 ≤ ((b0 - 224) * 64 + (b1 - 128)) * 64 + (b2 - 128) ∧ ((b0 - 224) * 64 + (b1 - 128)) * 64 + (b2 - 128) < 57344)) : decodeN n b0 b1 b2 b3 = (65533, 1) := by
  unfold decodeN
  rw [if_neg (by omega), if_neg (by omega)]
  by_cases h : 2 < n
  · rw [if_pos (by omega), if_neg (by omega)]
  · rw [if_neg (by omega), if_neg (by omega)]
theorem dn3_bad (n b0 b1 b2 b3 : Nat) (h1 : 224 ≤ b0) (h2 : b0 < 240) (hc : n ≤ 2 ∨ b1 < 128 ∨ 192 ≤ b1 ∨ b2 < 128 ∨ 192 ≤ b2) : decodeN n b0 b1 b2 b3 = (65533, 1) := by
  unfold decodeN
  rw [if_neg (by omega), if_neg (by omega), if_neg (by omega), if_neg (by omega)]
theorem dn4_ok (n b0 b1 b2 b3 : Nat) (h1 : 240 ≤ b0) (h2 : b0 < 248) (hn : 3 < n) (h3 : 128 ≤ b1) (h4 : b1 < 192) (h5 : 128 ≤ b2) (h6 : b2 < 192) (h7 : 128 ≤ b3) (h8 : b3 < 192)
    (hc : 65536 ≤ (((b0 - 240) * 64 + (b1 - 128)) * 64 + (b2 - 128)) * 64 + (b3 - 128)) (hv : (((b0 - 240) * 64 + (b1 - 128)) * 64 + (b2 - 128)) * 64 + (b3 - 128) ≤ 1114111) : decodeN n b0 b1 b2 b3 = ((((b0 - 240) * 64 + (b1 - 128)) * 64 + (b2 - 128)) * 64 + (b3 - 128), 4) := by
  unfold decodeN
  rw [if_neg (by omega), if_neg (by omega), if_neg (by omega), if_pos (by omega), if_pos (by omega)]
  refine Prod.ext ?_ rfl
  simp only []
  omega
theorem dn4_no (n b0 b1 b2 b3 : Nat) (h1 : 240 ≤ b0) (h2 : b0 < 248) (h3 : 128 ≤ b1) (h4 : b1 < 192) (h5 : 128 ≤ b2) (h6 : b2 < 192) (h7 : 128 ≤ b3) (h8 : b3 < 192)
    (hc : (((b0 - 240) * 64 + (b1 - 128)) * 64 + (b2 - 128)) * 64 + (b3 - 128) < 65536 ∨ 1114111 < (((b0 - 240) * 64 + (b1 - 128)) * 64 + (b2 - 128)) * 64 + (b3 - 128)) : decodeN n b0 b1 b2 b3 = (65533, 1) := by
  unfold decodeN
  rw [if_neg (by omega), if_neg (by omega), if_neg (by omega)]
  by_cases h : 3 < n
  · rw [if_pos (by omega), if_neg (by omega)]
  · rw [if_neg (by omega)]
theorem dn4_bad (n b0 b1 b2 b3 : Nat) (h1 : 240 ≤ b0) (h2 : b0 < 248) (hc : n ≤ 3 ∨ b1 < 128 ∨ 192 ≤ b1 ∨ b2 < 128 ∨ 192 ≤ b2 ∨ b3 < 128 ∨ 192 ≤ b3) : decodeN n b0 b1 b2 b3 = (65533, 1) := by
  unfold decodeN
  rw [if_neg (by omega), if_neg (by omega), if_neg (by omega), if_neg (by omega)]
theorem dn_lead (n b0 b1 b2 b3 : Nat) (h : (128 ≤ b0 ∧ b0 < 192) ∨ 248 ≤ b0) (hb : b0 < 256) : decodeN n b0 b1 b2 b3 = (65533, 1) := by
  unfold decodeN
  rw [if_neg (by omega), if_neg (by omega), if_neg (by omega), if_neg (by omega)]
end Go.Proofs.YthnbifkcbeldmaaDoor
