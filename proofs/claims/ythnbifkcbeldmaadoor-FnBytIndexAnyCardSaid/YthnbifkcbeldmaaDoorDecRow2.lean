/- utf8.DecodeRune over bytes in a row. -/
import Derived.Test.YthnbifkcbeldmaaDoorDecRow
import Derived.Lib.TrimUEq
namespace Go.Proofs.YthnbifkcbeldmaaDoor
open Go Go.Shelf Go.RowKit Go.Lib Go.Proofs
set_option linter.unusedVariables false
set_option maxHeartbeats 2000000 in
set_option maxRecDepth 100000 in
theorem decRow (b o cp : Nat) (s : ByteArray) (w : World) (hr : Row w b o s) (hT : Lib.Utf8Tabs 2 3 w) :
    Calls Tryd.prog 94 #[.slice (some ⟨b, o, none⟩) s.size cp] w fun e w' => e = .returned (.tuple #[.int .i32 (Lib.decodeGo s).1, .int .i64 (Lib.decodeGo s).2]) ∧ Below w.heap.size w w' := by
  have HS := Lib.hid (decSlowRow b o cp s w hr hT)
  obtain ⟨R, hR⟩ : ∃ R, (Lib.decodeGo s).1 = R := ⟨_, rfl⟩
  obtain ⟨K, hK⟩ : ∃ K, (Lib.decodeGo s).2 = K := ⟨_, rfl⟩
  have HR := Lib.hid hR
  have HK := Lib.hid hK
  rw [hR, hK] at HS ⊢
  clear hR hK hT
  by_cases h0 : s.size = 0
  · have hz : ¬ (0 : Int) < (s.size : Int) := by omega
    clear hr h0
    go_enter Tryd.func94, Tryd.ntmps94
    go_wp2
    go_loopw [5, 8] (fun _ i wr => i = .int .i64 0 ∧ w = wr) (fun _ _ _ => 0)
    case atStart => exact ⟨rfl, rfl⟩
    case round =>
      obtain ⟨rfl, rfl⟩ := hrel
      go_wp2_with (go_at_call 131; refine HS.out.mono ?_; rintro e w' ⟨rfl, hB⟩)
      go_ret2
      exact ⟨rfl, hB⟩
  · have hz : (0 : Int) < (s.size : Int) := by omega
    have hc := rowAt hr 0 (by omega)
    rw [Nat.add_zero] at hc
    obtain ⟨x, hx⟩ : ∃ x, s.get! 0 = x := ⟨_, rfl⟩
    rw [hx] at hc
    clear hr
    by_cases ha : x.toNat < 128
    · have haz : (x.toNat : Int) < 128 := by omega
      have hd : Lib.decodeGo s = (x.toNat, 1) := by
        unfold Lib.decodeGo
        rw [if_neg h0, Lib.decode_at, hx]
        exact decodeN_ascii _ _ _ _ _ ha
      have h1 := HR.out
      have h2 := HK.out
      rw [hd] at h1 h2
      subst h1 h2
      clear HS HR HK hd
      go_enter Tryd.func94, Tryd.ntmps94
      go_wp2
      go_loopw [5, 8] (fun _ i wr => i = .int .i64 0 ∧ w = wr) (fun _ _ _ => 0)
      case atStart => exact ⟨rfl, rfl⟩
      case round =>
        obtain ⟨rfl, rfl⟩ := hrel
        go_wp2
        go_ret2
        exact ⟨rfl, Below.refl _ _⟩
    · have haz : ¬ (x.toNat : Int) < 128 := by omega
      clear h0 hx
      go_enter Tryd.func94, Tryd.ntmps94
      go_wp2
      go_loopw [5, 8] (fun _ i wr => i = .int .i64 0 ∧ w = wr) (fun _ _ _ => 0)
      case atStart => exact ⟨rfl, rfl⟩
      case round =>
        obtain ⟨rfl, rfl⟩ := hrel
        go_wp2_with (go_at_call 131; refine HS.out.mono ?_; rintro e w' ⟨rfl, hB⟩)
        go_ret2
        exact ⟨rfl, hB⟩
end Go.Proofs.YthnbifkcbeldmaaDoor
