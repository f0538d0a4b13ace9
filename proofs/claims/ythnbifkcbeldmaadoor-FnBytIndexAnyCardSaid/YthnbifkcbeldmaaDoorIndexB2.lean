/- bytes.Index over rows of bytes of whatever length. -/
import Derived.Test.YthnbifkcbeldmaaDoorIndexB
namespace Go.Proofs.YthnbifkcbeldmaaDoor
open Go.Shelf Go.RowKit Go.Lib
set_option linter.unusedVariables false
theorem single_at (sub : ByteArray) (h1 : sub.size = 1) (h0 : 0 < sub.size) : (Go.Proofs.YthnbifkcbeldmaaDoor.b1 ((sub[0]'h0).toNat : Int)).data.toList = sub.data.toList := by
  have hl : sub.data.toList = [sub[0]'h0] := LastIndex.single sub h1
  rw [hl]
  show [((sub[0]'h0).toNat : Int).toNat.toUInt8] = _
  simp
theorem occ_zero_eq {s sub : ByteArray} (h : (sub.toList == s.toList) = true) : Lib.index s.data.toList sub.data.toList = 0 := Lib.zero s sub (.inr h)
set_option maxHeartbeats 1600000 in
set_option maxRecDepth 100000 in
theorem indexRow (b1 o1 c1 b2 o2 c2 : Nat) (s sub : ByteArray) (w : World) (hs : s.size < 4611686018427387904) (hp : sub.size < 4611686018427387904)
    (hc1 : Lib.Bytes w b1 o1 s) (hc2 : Lib.Bytes w b2 o2 sub) (hcap : s.size ≤ c1) :
    Calls Tryd.prog 93 #[.slice (some ⟨b1, o1, none⟩) s.size c1, .slice (some ⟨b2, o2, none⟩) sub.size c2] w fun e w' => e = .returned (.int .i64 (Lib.index s.data.toList sub.data.toList)) ∧ ∃ q, w' = w.drewN q := by
  by_cases h0 : sub.size = 0
  · have t0 : ((sub.size : Int) == 0) = true := beq_iff_eq.2 (by omega)
    have e : Hid (Lib.index s.data.toList sub.data.toList = 0) := Lib.zero s sub (.inl t0)
    clear h0 hc1 hc2
    go_enter Tryd.func93, Tryd.ntmps93
    go_wp2_with fail
    go_ret
    rw [e.out]
    exact ⟨rfl, 0, rfl⟩
  have t0 : ((sub.size : Int) == 0) = false := beq_eq_false_iff_ne.2 (by omega)
  by_cases h1 : sub.size = 1
  · have t1 : ((sub.size : Int) == 1) = true := beq_iff_eq.2 (by omega)
    have n0 : 0 < sub.size := by omega
    have k0 : w.cell? ⟨b2, o2, none⟩ = some (.int .u8 ((sub[0]'n0).toNat : Int)) := by simpa using hc2 0 (by omega)
    have e : Hid (Lib.index s.data.toList sub.data.toList = Lib.indexByte s.data.toList ((sub[0]'n0).toNat : Int).toNat.toUInt8) := Lib.one s sub h1
    have i0 : (0 : Int) < sub.size := by omega
    have H := Lib.hid (gbIndexByte b1 o1 c1 s ((sub[0]'n0).toNat : Int) w hc1 (by omega) (by have := (sub[0]'n0).toNat_lt; omega) hs)
    clear h0 h1 hc1 hc2
    go_enter Tryd.func93, Tryd.ntmps93
    go_wp2_with (go_at_call 127; refine H.out.mono ?_; rintro e w' ⟨rfl, hw⟩; rw [hw])
    go_ret
    rw [e.out]
    exact ⟨by first | rfl | simp, 0, rfl⟩
  have t1 : ((sub.size : Int) == 1) = false := beq_eq_false_iff_ne.2 (by omega)
  by_cases hq : sub.size = s.size
  · have t2 : ((sub.size : Int) == (s.size : Int)) = true := beq_iff_eq.2 (by omega)
    have H := Lib.hid (gbEqual (.slice (some ⟨b2, o2, none⟩) sub.size c2) (.slice (some ⟨b1, o1, none⟩) s.size c1) sub s w (Lib.run_convert_whole (P := Tryd.prog) w _ _ _ Tryd.underlying24 Tryd.underlying5 Tryd.underlying9 b2 o2 sub hc2 c2) (Lib.run_convert_whole (P := Tryd.prog) w _ _ _ Tryd.underlying24 Tryd.underlying5 Tryd.underlying9 b1 o1 s hc1 c1))
    by_cases he : (sub.toList == s.toList) = true
    · have e := Lib.hid (occ_zero_eq he)
      rw [he, hq] at H
      rw [hq] at t0 t1 ⊢
      clear hc1 hc2 he h0 h1 hq t2 hp
      go_enter Tryd.func93, Tryd.ntmps93
      go_wp2_with (go_at_call 128; refine H.out.mono ?_; rintro e w' ⟨rfl, hw⟩; rw [hw])
      go_ret
      rw [e.out]
      exact ⟨rfl, 0, rfl⟩
    · have he := eq_false_of_ne_true he
      have e := Lib.hid (show Lib.index s.data.toList sub.data.toList = -1 from Lib.long s sub (by omega) he)
      rw [he, hq] at H
      rw [hq] at t0 t1 ⊢
      clear hc1 hc2 he h0 h1 hq t2 hp
      go_enter Tryd.func93, Tryd.ntmps93
      go_wp2_with (go_at_call 128; refine H.out.mono ?_; rintro e w' ⟨rfl, hw⟩; rw [hw])
      go_ret
      rw [e.out]
      exact ⟨rfl, 0, rfl⟩
  have t2 : ((sub.size : Int) == (s.size : Int)) = false := beq_eq_false_iff_ne.2 (by omega)
  by_cases hl : s.size < sub.size
  · have hq' : (sub.toList == s.toList) = false := by
      rw [beq_eq_false_iff_ne]
      intro h
      have := congrArg List.length h
      rw [Lib.toList_data, Lib.toList_data, ← Lib.size_eq, ← Lib.size_eq] at this
      exact hq this
    have e := Lib.hid (show Lib.index s.data.toList sub.data.toList = -1 from Lib.long s sub (by omega) hq')
    have t3 : decide ((s.size : Int) < sub.size) = true := by simpa using hl
    clear h0 h1 hc1 hc2
    go_enter Tryd.func93, Tryd.ntmps93
    go_wp2_with fail
    go_ret
    rw [e.out]
    exact ⟨rfl, 0, rfl⟩
  exact indexRowBig b1 o1 c1 b2 o2 c2 s sub w hs hc1 hc2 hcap (by omega) (by omega)
end Go.Proofs.YthnbifkcbeldmaaDoor
