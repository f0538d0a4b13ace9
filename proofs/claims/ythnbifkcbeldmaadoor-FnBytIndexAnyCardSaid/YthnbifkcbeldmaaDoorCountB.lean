/- bytes.Count over rows of bytes; utf8.RuneCount, bytealg.Count. -/
import Derived.Test.YthnbifkcbeldmaaDoorIndexB2
import Derived.Test.YthnbifkcbeldmaaDoorCount
import Derived.Lib.RuneCountTail
namespace Go.Proofs.YthnbifkcbeldmaaDoor
open Go.RowKit Go.Lib
set_option linter.unusedVariables false

set_option maxHeartbeats 800000 in
theorem countRow (b o cp : Nat) (s : ByteArray) (c : Int) (hs : s.size < 4611686018427387904) (h0 : 0 ≤ c) (h1 : c ≤ 255) (w : World) (hr : Lib.Bytes w b o s) :
    Calls Tryd.prog 126 #[.slice (some ⟨b, o, none⟩) s.size cp, .int .u8 c] w fun e w' => e = .returned (.int .i64 (cntTo s c s.size)) ∧ w = w' := by
  have Hr := Lib.hid hr
  clear hr
  go_enter Tryd.func126, Tryd.ntmps126
  go_wp2
  go_loop [5, 7, 10] (fun n _ i => ∃ k m : Nat, k ≤ s.size ∧ i = .int .i64 k ∧ n = .int .i64 m ∧ m = cntTo s c k ∧ m ≤ k) (fun _ _ i => s.size - (RowKit.intOf i).toNat)
  case atStart => exact ⟨0, 0, Nat.zero_le _, rfl, rfl, (cntTo_zero s c).symm, Nat.le_refl _⟩
  case round =>
    obtain ⟨k, m, hk, rfl, rfl, hm, hmk⟩ := hrel
    have HM := Lib.hid hm
    clear hm
    by_cases hlt : k < s.size
    · have hI : (k : Int) < s.size := by omega
      have hcell := Hr.out k hlt
      cases hx : ((s[k].toNat : Int) == c)
      all_goals
        have HS := Lib.hid (count_snoc s c k hlt h0 h1 _ hx)
        go_wp2
        go_round
        case rel => first | exact ⟨k + 1, m, by omega, by go_num, rfl, by rw [HS.out, HM.out]; rfl, by omega⟩ | exact ⟨k + 1, m + 1, by omega, by go_num, by go_num, by rw [HS.out, HM.out]; rfl, by omega⟩
        case measure => simp [RowKit.intOf]; omega
    · have hI : ¬ (k : Int) < s.size := by omega
      rw [cntTo_all s c k (by omega)] at HM
      go_wp2
      go_ret
      rw [← HM.out]
      exact ⟨rfl, rfl⟩

theorem get_bang (s : ByteArray) (k : Nat) (h : k < s.size) : s.get! k = s[k] := by
  rw [← Lib.getD_get!', List.getD_eq_getElem?_getD, byte_at s k h]
  rfl
set_option maxHeartbeats 1600000 in
theorem runeCountRow (b o cp : Nat) (s : ByteArray) (hs : s.size < 4611686018427387904) (hcp : s.size ≤ cp) (w : World) (hr : Lib.Bytes w b o s) :
    Calls Tryd.prog 125 #[.slice (some ⟨b, o, none⟩) s.size cp] w fun e w' => e = .returned (.int .i64 (Lib.runeCount s)) ∧ Below w.heap.size w w' := by
  have Hr := Lib.hid hr
  have HV := Lib.hid (fun (k : Nat) (hk : k ≤ s.size) => show (convert 24 9 (.slice (some ⟨b, o + k, none⟩) (s.size - k) (cp - k))).run Tryd.prog w = .ok (.string (s.extract k s.size)) w by
    have := Lib.run_convert_window (P := Tryd.prog) w _ _ _ Tryd.underlying24 Tryd.underlying5 Tryd.underlying9 b o s hr k (s.size - k) (cp - k) (by omega)
    rwa [show k + (s.size - k) = s.size by omega] at this)
  clear hr
  go_enter Tryd.func125, Tryd.ntmps125
  go_wp2
  go_loop [4, 5] (fun i _ => ∃ k : Nat, k ≤ s.size ∧ i = .int .i64 k ∧ Hid (∀ j, j < k → (s.get! j).toNat < 128)) (fun i _ => s.size - (RowKit.intOf i).toNat)
  case atStart => exact ⟨0, Nat.zero_le _, rfl, fun j hj => by omega⟩
  case round =>
    obtain ⟨k, hk, rfl, ha⟩ := hrel
    by_cases hlt : k < s.size
    · have hI : (k : Int) < s.size := by omega
      have hcell := Hr.out k hlt
      by_cases hb : s[k].toNat < 128
      · have g1 : ¬ ((128 : Int) ≤ (s[k].toNat : Int)) := by omega
        have HA : Hid (∀ j, j < k + 1 → (s.get! j).toNat < 128) := Lib.hid (fun j hj => by
          rcases Nat.lt_or_ge j k with h | h
          · exact ha.out j h
          · obtain rfl : j = k := by omega
            rw [get_bang s j hlt]; exact hb)
        go_wp2
        go_round
        case rel => exact ⟨k + 1, by omega, by go_num, HA⟩
        case measure => simp [RowKit.intOf]; omega
      · have g1 : (128 : Int) ≤ (s[k].toNat : Int) := by omega
        have E := Lib.hid (Lib.runeCount_split s k hk ha.out)
        have hv := HV.out k hk
        have hz : (s.extract k s.size).size = s.size - k := by rw [ByteArray.size_extract]; omega
        have HC := Lib.hid (runeCountStr (s.extract k s.size) w (by rw [hz]; omega))
        have hle := Lib.runeCount_le (s.extract k s.size)
        rw [hz] at hle
        clear hz
        generalize Lib.runeCount (s.extract k s.size) = R at *
        go_wp2_with (go_at_call 116; refine HC.out.mono ?_; rintro e w' ⟨rfl, hB⟩)
        go_ret
        rw [E.out]
        exact ⟨by first | rfl | (push_cast; rfl), hB⟩
    · have hI : ¬ (k : Int) < s.size := by omega
      obtain rfl : k = s.size := by omega
      have E := Lib.hid (Lib.runeCount_split s s.size (Nat.le_refl _) ha.out)
      have hz : Lib.runeCount (s.extract s.size s.size) = 0 := by
        have := Lib.runeCount_le (s.extract s.size s.size)
        rw [ByteArray.size_extract] at this
        omega
      rw [hz] at E
      go_wp2
      go_ret
      rw [E.out]
      exact ⟨rfl, Below.refl _ _⟩
end Go.Proofs.YthnbifkcbeldmaaDoor
