/- impl.BytTrim, BytTrimLeft, BytTrimRight; the law FnBytTrim. -/
import Derived.Test.YthnbifkcbeldmaaDoorBTrimAll
import Derived.Deep.RegionHeld3
namespace Go.Proofs.YthnbifkcbeldmaaDoor
open Go Go.Shelf Go.RowKit Go.Lib
set_option linter.unusedVariables false
macro "row_tac" : tactic => `(tactic| (repeat (first | exact Row.new1 _ _ _ _ _ _ (by simp) | exact Row.const1 _ ⟨#[97, 98]⟩ _ (by kernel_rfl) _ _ _ (by simp) | refine Row.drew ?_ | refine Row.alloc ?_ _)))
macro "below_tac" : tactic => `(tactic| (repeat (first | exact Below.refl _ _ | assumption | refine Below.drew ?_ | refine Below.alloc ?_ (by first | assumption | (simp; try omega)) _)))
theorem chainB {w W w' : World} (h : Below w.heap.size w W) (h2 : Below W.heap.size W w') : Below w.heap.size w w' := h.trans (h2.mono h.size)
theorem trimL_size (p : Nat → Bool) (s : ByteArray) : (⟨(trimL p s.data.toList).toArray⟩ : ByteArray).size ≤ s.size := by
  rw [Go.Lib.size_mk, trimL, List.length_drop, ← Lib.size_eq]; omega
theorem trimR_size (p : Nat → Bool) (s : ByteArray) : (⟨(trimR p s.data.toList).toArray⟩ : ByteArray).size ≤ s.size := by
  rw [Go.Lib.size_mk, trimR, List.length_take, ← Lib.size_eq]; omega
theorem trimB_size (p : Nat → Bool) (s : ByteArray) : (⟨(trimB p s.data.toList).toArray⟩ : ByteArray).size ≤ s.size := by
  have h : (trimR p s.data.toList).length ≤ s.size := by rw [trimR, List.length_take, ← Lib.size_eq]; omega
  rw [Go.Lib.size_mk, trimB, trimL, List.length_drop]; omega
set_option maxHeartbeats 1600000 in
theorem implBytTrimLeft (g o c : Nat) (s cut : ByteArray) (w : World) (r : Row w g o s) (hs : s.size ≤ 2147483647) (hc : cut.size < 4294967281) (hT : Utf8Tabs 2 3 w) :
    Calls Tryd.prog 17 #[.slice (some ⟨g, o, none⟩) s.size c, .string cut] w (RetRow w ⟨(trimL (pOf cut) s.data.toList).toArray⟩) := by
  have hl := trimL_size (pOf cut) s
  have HT := Lib.hid hT
  have H := Lib.hid (fun (p1 cap1 : Nat) (W : World) q1 h hm hB => gbTrimLeft p1 0 cap1 s cut W q1 h hm hc (Utf8Tabs_below HT.out hB))
  generalize (⟨(trimL (pOf cut) s.data.toList).toArray⟩ : ByteArray) = R at *
  clear hT
  go_enter Tryd.func17, Tryd.ntmps17
  go_wp2_with fail
  refine (clone g o c s _ (by omega) r).mono ?_
  rintro e w1 ⟨p1, cap1, rfl, p2, p3, p4, p5, k1, q1, bel1⟩
  have Q1 := Lib.hid q1
  clear q1 k1
  go_wp2_with (go_at_call 45; refine (H.out _ _ _ Q1.out p2 p3 bel1).mono ?_; rintro e w4 ⟨p, cap, rfl, z1, z2, z3, z4, z5⟩; have Z := Lib.hid (And.intro z3 z4); clear z3 z4)
  refine (cloneRet p cap R _ (by omega) Z.out).mono ?_
  rintro e w5 ⟨p', cap', rfl, y1, y2, y3, y4, y5⟩
  have Y := Lib.hid (And.intro y3 y4)
  clear y3 y4
  go_wp2_with fail
  go_ret
  exact ⟨p', cap', rfl, y1, y2, Y.out.1, Y.out.2, chain (chain bel1 z5) y5⟩
set_option maxHeartbeats 1600000 in
theorem implBytTrimRight (g o c : Nat) (s cut : ByteArray) (w : World) (r : Row w g o s) (hs : s.size ≤ 2147483647) (hc : cut.size < 4294967281) (hT : Utf8Tabs 2 3 w) :
    Calls Tryd.prog 18 #[.slice (some ⟨g, o, none⟩) s.size c, .string cut] w (RetRow w ⟨(trimR (pOf cut) s.data.toList).toArray⟩) := by
  have hl := trimR_size (pOf cut) s
  have HT := Lib.hid hT
  have H := Lib.hid (fun (p1 cap1 : Nat) (W : World) q1 h hm hB => gbTrimRight p1 0 cap1 s cut W q1 h hm hc (Utf8Tabs_below HT.out hB))
  generalize (⟨(trimR (pOf cut) s.data.toList).toArray⟩ : ByteArray) = R at *
  clear hT
  go_enter Tryd.func18, Tryd.ntmps18
  go_wp2_with fail
  refine (clone g o c s _ (by omega) r).mono ?_
  rintro e w1 ⟨p1, cap1, rfl, p2, p3, p4, p5, k1, q1, bel1⟩
  have Q1 := Lib.hid q1
  clear q1 k1
  go_wp2_with (go_at_call 46; refine (H.out _ _ _ Q1.out p2 p3 bel1).mono ?_; rintro e w4 ⟨p, cap, rfl, z1, z2, z3, z4, z5⟩; have Z := Lib.hid (And.intro z3 z4); clear z3 z4)
  refine (cloneRet p cap R _ (by omega) Z.out).mono ?_
  rintro e w5 ⟨p', cap', rfl, y1, y2, y3, y4, y5⟩
  have Y := Lib.hid (And.intro y3 y4)
  clear y3 y4
  go_wp2_with fail
  go_ret
  exact ⟨p', cap', rfl, y1, y2, Y.out.1, Y.out.2, chain (chain bel1 z5) y5⟩
set_option maxHeartbeats 1600000 in
theorem implBytTrim (g o c : Nat) (s cut : ByteArray) (w : World) (r : Row w g o s) (hs : s.size ≤ 2147483647) (hc : cut.size < 4294967281) (hT : Utf8Tabs 2 3 w) :
    Calls Tryd.prog 19 #[.slice (some ⟨g, o, none⟩) s.size c, .string cut] w (RetRow w ⟨(trimB (pOf cut) s.data.toList).toArray⟩) := by
  have hl := trimB_size (pOf cut) s
  have HT := Lib.hid hT
  have H := Lib.hid (fun (p1 cap1 : Nat) (W : World) q1 h hm hB => gbTrim p1 0 cap1 s cut W q1 h hm hc (Utf8Tabs_below HT.out hB))
  generalize (⟨(trimB (pOf cut) s.data.toList).toArray⟩ : ByteArray) = R at *
  clear hT
  go_enter Tryd.func19, Tryd.ntmps19
  go_wp2_with fail
  refine (clone g o c s _ (by omega) r).mono ?_
  rintro e w1 ⟨p1, cap1, rfl, p2, p3, p4, p5, k1, q1, bel1⟩
  have Q1 := Lib.hid q1
  clear q1 k1
  go_wp2_with (go_at_call 47; refine (H.out _ _ _ Q1.out p2 p3 bel1).mono ?_; rintro e w4 ⟨p, cap, rfl, z1, z2, z3, z4, z5⟩; have Z := Lib.hid (And.intro z3 z4); clear z3 z4)
  refine (cloneRet p cap R _ (by omega) Z.out).mono ?_
  rintro e w5 ⟨p', cap', rfl, y1, y2, y3, y4, y5⟩
  have Y := Lib.hid (And.intro y3 y4)
  clear y3 y4
  go_wp2_with fail
  go_ret
  exact ⟨p', cap', rfl, y1, y2, Y.out.1, Y.out.2, chain (chain bel1 z5) y5⟩
set_option maxHeartbeats 3200000 in
set_option maxRecDepth 100000 in
theorem walk_FnBytTrim (a0 a1 : ByteArray) (w : World) (w0 : a0.size ≤ maxLen) (w1 : a1.size ≤ maxLen) (htab : Lib.Utf8Tabs 2 3 w) :
    Calls Tryd.prog 3 #[.string a0, .string a1] w fun e w' => e = .returned (.bool true) ∧ Below w.heap.size w w' := by
  have hnot : ∀ (x : Bool) (w : World), (Op.unary .not (.bool x)).run Tryd.prog w = .ok (.bool (!x)) w := fun _ _ => rfl
  have hm : maxLen = 9223372036854775807 := rfl
  rw [hm] at w0 w1
  clear hm
  by_cases h0 : 2147483647 < a0.size
  · go_enter Tryd.func3, Tryd.ntmps3
    go_wp2
    go_ret
    exact ⟨rfl, Below.refl _ _⟩
  by_cases h1 : 2147483647 < a1.size
  · go_enter Tryd.func3, Tryd.ntmps3
    go_wp2
    go_ret
    exact ⟨rfl, Below.refl _ _⟩
  have HV0 := Lib.hid (fun (W : World) => specSeValid a0 W (by omega))
  have HV1 := Lib.hid (fun (W : World) => specSeValid a1 W (by omega))
  cases hv0 : validR a0 with
  | false =>
    rw [hv0] at HV0
    go_enter Tryd.func3, Tryd.ntmps3
    go_wp2_with (go_at_call 14; refine (HV0.out _).mono ?_; rintro e w2 ⟨rfl, hB2⟩)
    go_ret
    exact ⟨rfl, hB2⟩
  | true =>
  rw [hv0] at HV0
  cases hv1 : validR a1 with
  | false =>
    rw [hv1] at HV1
    go_enter Tryd.func3, Tryd.ntmps3
    go_wp2_with (first
      | (go_at_call 14; have B1' := B1; refine (HV1.out _).mono ?_; rintro e w2 ⟨rfl, hB2⟩)
      | (go_at_call 14; refine (HV0.out _).mono ?_; rintro e w2 ⟨rfl, B1⟩))
    go_ret
    exact ⟨rfl, B1.trans (hB2.mono B1.size)⟩
  | true =>
  rw [hv1] at HV1
  obtain ⟨hl1, hl2, hl3⟩ := trim_le (pOf a1) a0.data.toList
  rw [← Lib.size_eq] at hl1 hl2 hl3
  obtain ⟨L, hL⟩ : ∃ L : ByteArray, L = ⟨(trimL (pOf a1) a0.data.toList).toArray⟩ := ⟨_, rfl⟩
  obtain ⟨R, hR⟩ : ∃ R : ByteArray, R = ⟨(trimR (pOf a1) a0.data.toList).toArray⟩ := ⟨_, rfl⟩
  obtain ⟨T, hT⟩ : ∃ T : ByteArray, T = ⟨(trimB (pOf a1) a0.data.toList).toArray⟩ := ⟨_, rfl⟩
  have hLd : L.data.toList = trimL (pOf a1) a0.data.toList := by rw [hL]
  have hLs : L.size ≤ a0.size := by rw [hL, Lib.size_mk]; exact hl2
  have hTT := (trim_twice (pOf a1) a0.data.toList).2
  have HT := Lib.hid htab
  have S1 : Hid (∀ W, Calls Tryd.prog 15 #[.string a0, .string a1] W fun e w' => e = .returned (.string L) ∧ Below W.heap.size W w') := Lib.hid (fun W => by rw [hL]; exact specTrimLeft a0 a1 W (by omega) (by omega))
  have S2 : Hid (∀ W, Calls Tryd.prog 16 #[.string a0, .string a1] W fun e w' => e = .returned (.string R) ∧ Below W.heap.size W w') := Lib.hid (fun W => by rw [hR]; exact specTrimRight a0 a1 W (by omega) (by omega))
  have S3 : Hid (∀ W, Calls Tryd.prog 16 #[.string L, .string a1] W fun e w' => e = .returned (.string T) ∧ Below W.heap.size W w') := Lib.hid (fun W => by
    have h := specTrimRight L a1 W (by omega) (by omega)
    rw [hLd, hTT, ← hT] at h
    exact h)
  have hm31 : a0.size ≤ 2147483647 := by omega
  have hc31 : a1.size < 4294967281 := by omega
  have I1 : Hid (∀ (W : World) (g o c : Nat), Below w.heap.size w W → Row W g o a0 → Calls Tryd.prog 17 #[.slice (some ⟨g, o, none⟩) a0.size c, .string a1] W (RetRow W L)) := Lib.hid (fun W g o c hB r => by rw [hL]; exact implBytTrimLeft g o c a0 a1 W r hm31 hc31 (Utf8Tabs_below HT.out hB))
  have I2 : Hid (∀ (W : World) (g o c : Nat), Below w.heap.size w W → Row W g o a0 → Calls Tryd.prog 18 #[.slice (some ⟨g, o, none⟩) a0.size c, .string a1] W (RetRow W R)) := Lib.hid (fun W g o c hB r => by rw [hR]; exact implBytTrimRight g o c a0 a1 W r hm31 hc31 (Utf8Tabs_below HT.out hB))
  have I3 : Hid (∀ (W : World) (g o c : Nat), Below w.heap.size w W → Row W g o a0 → Calls Tryd.prog 19 #[.slice (some ⟨g, o, none⟩) a0.size c, .string a1] W (RetRow W T)) := Lib.hid (fun W g o c hB r => by rw [hT]; exact implBytTrim g o c a0 a1 W r hm31 hc31 (Utf8Tabs_below HT.out hB))
  have I4 : Hid (∀ (W : World) (g o c : Nat), Below w.heap.size w W → Row W g o ⟨#[97, 98]⟩ → Calls Tryd.prog 19 #[.slice (some ⟨g, o, none⟩) 2 c, .string ⟨#[98]⟩] W (RetRow W ⟨#[97]⟩)) := Lib.hid (fun W g o c hB r => by
    have h := implBytTrim g o c ⟨#[97, 98]⟩ ⟨#[98]⟩ W r (by decide) (by decide) (Utf8Tabs_below HT.out hB)
    rw [show (⟨#[97, 98]⟩ : ByteArray).data.toList = [97, 98] from rfl, trim_ab] at h
    exact h)
  have hcv := hconv
  have ka := kc1
  clear hl1 hl2 hl3 hL hR hT hLd hLs hTT htab hv0 hv1
  go_enter Tryd.func3, Tryd.ntmps3
  go_wp2_with (first
    | (go_at_call 16; have B3' := B3; refine (S2.out _).mono ?_; rintro e w4 ⟨rfl, hB4⟩; have C4 : Below w.heap.size w w4 := B3.trans (hB4.mono B3.size); have s4 := C4.size)
    | (go_at_call 15; have B2' := B2; refine (S1.out _).mono ?_; rintro e w3 ⟨rfl, hB3⟩; have B3 := B2.trans (hB3.mono B2.size))
    | (go_at_call 14; have B1' := B1; refine (HV1.out _).mono ?_; rintro e w2 ⟨rfl, hB2⟩; have B2 := B1.trans (hB2.mono B1.size))
    | (go_at_call 14; refine (HV0.out _).mono ?_; rintro e w1' ⟨rfl, B1⟩))
  go_region_held3 (fun w' => True) (trivial) (first
    | (go_at_call 19; have X := C8; refine (I4.out _ _ _ _ ?_ ?_).mono ?_; (any_goals (below_tac; done)); (any_goals (row_tac; done)); rintro e w9 ⟨p9, cp9, rfl, z1, z2, z3, z4, z5⟩; have C9 : Below w.heap.size w w9 := chainB (by below_tac) z5; have s9 := C9.size; have Z9 := Lib.hid (show RowAt w9 p9 cp9 ⟨#[97]⟩ from ⟨z3, z4⟩); have hb9 := hbackRet _ p9 cp9 ⟨#[97]⟩ Z9.out; have hc9 : (convert 24 9 (.slice p9 1 cp9)).run Tryd.prog w9 = .ok (.string ⟨#[97]⟩) w9 := hb9; clear hb9; clear z1 z2 z3 z4 z5)
    | (go_at_call 16; have X := C7; refine (S3.out _).mono ?_; rintro e w8 ⟨rfl, hB8⟩; have C8 : Below w.heap.size w w8 := chainB (by below_tac) hB8; have s8 := C8.size; have hb8 := hbackRet _ p7 cp7 T (Z7.out.later hB8))
    | (go_at_call 19; have X := C6; refine (I3.out _ _ _ _ ?_ ?_).mono ?_; (any_goals (below_tac; done)); (any_goals (row_tac; done)); rintro e w7 ⟨p7, cp7, rfl, z1, z2, z3, z4, z5⟩; have C7 : Below w.heap.size w w7 := chainB (by below_tac) z5; have s7 := C7.size; have Z7 := Lib.hid (show RowAt w7 p7 cp7 T from ⟨z3, z4⟩); have hb7 := hbackRet _ p7 cp7 T Z7.out; clear z1 z2 z3 z4 z5)
    | (go_at_call 18; have X := C5; refine (I2.out _ _ _ _ ?_ ?_).mono ?_; (any_goals (below_tac; done)); (any_goals (row_tac; done)); rintro e w6 ⟨p6, cp6, rfl, z1, z2, z3, z4, z5⟩; have C6 : Below w.heap.size w w6 := chainB (by below_tac) z5; have s6 := C6.size; have Z6 := Lib.hid (show RowAt w6 p6 cp6 R from ⟨z3, z4⟩); have hb6 := hbackRet _ p6 cp6 R Z6.out; clear z1 z2 z3 z4 z5)
    | (go_at_call 17; have X := C4; refine (I1.out _ _ _ _ ?_ ?_).mono ?_; (any_goals (below_tac; done)); (any_goals (row_tac; done)); rintro e w5 ⟨p5, cp5, rfl, z1, z2, z3, z4, z5⟩; have C5 : Below w.heap.size w w5 := chainB (by below_tac) z5; have s5 := C5.size; have Z5 := Lib.hid (show RowAt w5 p5 cp5 L from ⟨z3, z4⟩); have hb5 := hbackRet _ p5 cp5 L Z5.out; clear z1 z2 z3 z4 z5))
  all_goals (go_wp2_with fail; go_ret; exact ⟨rfl, C9⟩)
end Go.Proofs.YthnbifkcbeldmaaDoor
