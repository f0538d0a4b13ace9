/- spec.HasByte. -/
import Derived.Test.YteajdljmbjdbkaaRpLaw
namespace Go.Proofs.Yteajdljmbjdbkaa
open Go.RowKit Go.Lib
set_option linter.unusedVariables false

theorem i8_inj {c d : UInt8} (h : (c.toNat : Int) = d.toNat) : c = d := UInt8.toNat_inj.1 (by omega)
def hasB (s : ByteArray) (c : UInt8) : Bool := decide (c ∈ s.data.toList)
set_option maxHeartbeats 1600000 in
theorem specHasByte (s : ByteArray) (c : UInt8) (w : World) (hz : s.size < 4611686018427387904) :
    Calls Try.prog 32 #[.string s, .int .u8 (c.toNat : Int)] w fun e w' => e = .returned (.bool (hasB s c)) ∧ w = w' := by
  have hsl : s.data.toList.length = s.size := by simp
  have HSL := Lib.hid hsl
  clear hsl
  go_enter Try.func32, Try.ntmps32
  go_wp2_with fail
  go_loop [5] (fun v => ∃ j : Nat, j ≤ s.size ∧ v = .int .i64 (j : Int) ∧ c ∉ s.data.toList.take j) (fun v => s.size - (RowKit.intOf v).toNat)
  case atStart => exact ⟨0, Nat.zero_le _, rfl, by simp⟩
  case round =>
    obtain ⟨j, hj, rfl, hall⟩ := hrel
    have HALL := Lib.hid hall
    clear hall
    by_cases hlt : j < s.size
    · have e1 : (j : Int) < s.size := by omega
      have hjl : j < s.data.toList.length := by rw [HSL.out]; exact hlt
      have HG : Hid (s.data.toList[j]'hjl = s[j]) := Lib.hid rfl
      by_cases h0 : s[j] = c
      · have e2 : ((s[j].toNat : Int) == (c.toNat : Int)) = true := by rw [h0]; exact beq_self_eq_true _
        have HM : Hid (hasB s c = true) := Lib.hid (decide_eq_true (by rw [← h0, ← HG.out]; exact List.getElem_mem _))
        clear h0
        go_wp2_with fail
        go_ret
        exact ⟨by rw [HM.out]; rfl, rfl⟩
      · have e2 : ((s[j].toNat : Int) == (c.toNat : Int)) = false := beq_eq_false_iff_ne.2 (fun e => h0 (i8_inj e))
        have H0 := Lib.hid h0
        clear h0
        go_wp2_with fail
        go_round
        case rel => exact ⟨j + 1, by omega, by go_num, by
          rw [List.take_add_one, List.getElem?_eq_getElem hjl, HG.out]
          intro hm
          rcases List.mem_append.1 hm with h | h
          · exact HALL.out h
          · simp at h; exact H0.out h.symm⟩
        case measure => simp [RowKit.intOf]; omega
    · obtain rfl : j = s.size := by omega
      have e1 : ¬ ((s.size : Int) < s.size) := by omega
      have HN : Hid (hasB s c = false) := Lib.hid (decide_eq_false (by
        have := HALL.out
        rw [← HSL.out, List.take_length] at this
        exact this))
      clear hlt
      go_wp2_with fail
      go_ret
      exact ⟨by rw [HN.out]; rfl, rfl⟩
end Go.Proofs.Yteajdljmbjdbkaa
