/- The plain searches of a byte, in texts and in rows of bytes: the first and the last place. -/
import Derived.Test.YthnbifkcbeldmaaDoorSpecAt
import Derived.Test.YthnbifkcbeldmaaDoorBytes
namespace Go.Proofs.YthnbifkcbeldmaaDoor
open Go.RowKit Go.Lib
set_option linter.unusedVariables false

set_option maxHeartbeats 800000 in
theorem indexByteStr (s : ByteArray) (c : Int) (hs : s.size < 4611686018427387904) (h0 : 0 ≤ c) (h1 : c ≤ 255) (w : World) :
    Calls Tryd.prog 105 #[.string s, .int .u8 c] w fun e w' => e = .returned (.int .i64 (index s.data.toList (b1 c).data.toList)) ∧ w = w' := by
  go_enter Tryd.func105, Tryd.ntmps105
  go_wp2
  go_loop [5] (fun vi => ∃ k : Nat, k ≤ s.size ∧ vi = .int .i64 k ∧ Hid (NoOcc s.data.toList (b1 c).data.toList k)) (fun vi => s.size - (RowKit.intOf vi).toNat)
  case atStart => exact ⟨0, by omega, rfl, NoOcc.zero _ _⟩
  case round =>
    obtain ⟨k, hk, rfl, hh⟩ := hrel
    by_cases hlt : k < s.size
    · have ho := occ_b1 s c k h0 h1 hlt
      cases hc : ((s[k].toNat : Int) == c) with
      | true =>
        have Hf := Lib.hid (index_hit hh.out (by simp; omega) (ho.trans hc))
        clear ho
        go_wp2
        go_ret
        rw [Hf.out]
        exact ⟨rfl, rfl⟩
      | false =>
        have Hn := Lib.hid (hh.out.succ (ho.trans hc))
        clear ho
        go_wp2
        go_round
        case rel => exact ⟨k + 1, by omega, by go_num, Hn⟩
        case measure => simp [RowKit.intOf]; omega
    · have hk2 : k = s.size := by omega
      have Hf := Lib.hid (index_b1_none s c (by rw [← hk2]; exact hh.out))
      clear hk2
      go_wp2
      go_ret
      rw [Hf.out]
      exact ⟨rfl, rfl⟩

set_option maxHeartbeats 800000 in
theorem indexByteRow (b o cp : Nat) (s : ByteArray) (c : Int) (hs : s.size < 4611686018427387904) (h0 : 0 ≤ c) (h1 : c ≤ 255) (w : World) (hr : Row w b o s) :
    Calls Tryd.prog 144 #[.slice (some ⟨b, o, none⟩) s.size cp, .int .u8 c] w fun e w' => e = .returned (.int .i64 (index s.data.toList (b1 c).data.toList)) ∧ w = w' := by
  have Hr := Lib.hid hr
  clear hr
  go_enter Tryd.func144, Tryd.ntmps144
  go_wp2
  go_loop [5, 6, 9] (fun _ _ vi => ∃ k : Nat, k ≤ s.size ∧ vi = .int .i64 k ∧ Hid (NoOcc s.data.toList (b1 c).data.toList k)) (fun _ _ vi => s.size - (RowKit.intOf vi).toNat)
  case atStart => exact ⟨0, by omega, rfl, NoOcc.zero _ _⟩
  case round =>
    obtain ⟨k, hk, rfl, hh⟩ := hrel
    by_cases hlt : k < s.size
    · have ho := occ_b1 s c k h0 h1 hlt
      have hcell := Hr.out k hlt
      cases hc : ((s[k].toNat : Int) == c) with
      | true =>
        have Hf := Lib.hid (index_hit hh.out (by simp; omega) (ho.trans hc))
        clear ho
        go_wp2
        go_ret
        rw [Hf.out]
        exact ⟨rfl, rfl⟩
      | false =>
        have Hn := Lib.hid (hh.out.succ (ho.trans hc))
        clear ho
        go_wp2
        go_round
        case rel => exact ⟨k + 1, by omega, by go_num, Hn⟩
        case measure => simp [RowKit.intOf]; omega
    · have hk2 : k = s.size := by omega
      have Hf := Lib.hid (index_b1_none s c (by rw [← hk2]; exact hh.out))
      clear hk2
      go_wp2
      go_ret
      rw [Hf.out]
      exact ⟨rfl, rfl⟩

end Go.Proofs.YthnbifkcbeldmaaDoor
