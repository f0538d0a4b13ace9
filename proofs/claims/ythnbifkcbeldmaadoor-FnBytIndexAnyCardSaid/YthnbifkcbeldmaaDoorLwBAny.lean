/- gobytes.ContainsAny; impl.BytIndexAny, BytLastIndexAny, BytContainsAny; the law FnBytIndexAny. -/
import Derived.Test.YthnbifkcbeldmaaDoorBIdx
import Derived.Test.YthnbifkcbeldmaaDoorBLas
namespace Go.Proofs.YthnbifkcbeldmaaDoor
open Go Go.Shelf Go.RowKit Go.Lib
set_option linter.unusedVariables false
def CaPost (w : World) (s cut : ByteArray) (e : Ending) (w' : World) : Prop := ∃ v : Int, e = .returned (.bool (decide (0 ≤ v))) ∧ FirstIs (pOf cut) s.data.toList v ∧ Below w.heap.size w w'
set_option maxHeartbeats 1600000 in
theorem gContainsAny (b1 o1 c1 : Nat) (s cut : ByteArray) (w : World) (hr : Row w b1 o1 s) (hcap : s.size ≤ c1) (hm : c1 ≤ maxLen) (hs : s.size ≤ 2147483647) (hc : cut.size < 4294967281) (hT : Utf8Tabs 2 3 w) :
    Calls Tryd.prog 67 #[.slice (some ⟨b1, o1, none⟩) s.size c1, .string cut] w (CaPost w s cut) := by
  have H := Lib.hid (gIndexAny b1 o1 c1 s cut w hr hcap hm hs hc hT)
  clear hT hr
  go_enter Tryd.func67, Tryd.ntmps67
  go_wp2_with (go_at_call 65; refine H.out.mono ?_; rintro e w4 ⟨v, rfl, z1, z2⟩; have Z := Lib.hid z1; clear z1)
  go_ret
  exact ⟨v, rfl, Z.out, z2⟩
set_option maxHeartbeats 1600000 in
theorem implBytIndexAny (g o c : Nat) (s cut : ByteArray) (w : World) (r : Row w g o s) (hs : s.size ≤ 2147483647) (hc : cut.size < 4294967281) (hT : Utf8Tabs 2 3 w) :
    Calls Tryd.prog 38 #[.slice (some ⟨g, o, none⟩) s.size c, .string cut] w (IaPost w s cut) := by
  have HT := Lib.hid hT
  have H := Lib.hid (fun (p1 cap1 : Nat) (W : World) q1 h hm hB => gIndexAny p1 0 cap1 s cut W q1 h hm hs hc (Utf8Tabs_below HT.out hB))
  clear hT
  go_enter Tryd.func38, Tryd.ntmps38
  go_wp2_with fail
  refine (clone g o c s _ (by omega) r).mono ?_
  rintro e w1 ⟨p1, cap1, rfl, p2, p3, p4, p5, k1, q1, bel1⟩
  have Q1 := Lib.hid q1
  clear q1 k1
  go_wp2_with (go_at_call 65; refine (H.out _ _ _ Q1.out p2 p3 bel1).mono ?_; rintro e w4 ⟨v, rfl, z1, z2⟩; have Z := Lib.hid z1; clear z1)
  go_ret
  exact ⟨v, rfl, Z.out, bel1.trans (z2.mono bel1.size)⟩
set_option maxHeartbeats 1600000 in
theorem implBytLastIndexAny (g o c : Nat) (s cut : ByteArray) (w : World) (r : Row w g o s) (hs : s.size ≤ 2147483647) (hc : cut.size < 4294967281) (hT : Utf8Tabs 2 3 w) :
    Calls Tryd.prog 40 #[.slice (some ⟨g, o, none⟩) s.size c, .string cut] w (LaPost w s cut) := by
  have HT := Lib.hid hT
  have H := Lib.hid (fun (p1 cap1 : Nat) (W : World) q1 h hm hB => gLastIndexAnyB p1 0 cap1 s cut W q1 h hm hs hc (Utf8Tabs_below HT.out hB))
  clear hT
  go_enter Tryd.func40, Tryd.ntmps40
  go_wp2_with fail
  refine (clone g o c s _ (by omega) r).mono ?_
  rintro e w1 ⟨p1, cap1, rfl, p2, p3, p4, p5, k1, q1, bel1⟩
  have Q1 := Lib.hid q1
  clear q1 k1
  go_wp2_with (go_at_call 66; refine (H.out _ _ _ Q1.out p2 p3 bel1).mono ?_; rintro e w4 ⟨v, rfl, z1, z2⟩; have Z := Lib.hid z1; clear z1)
  go_ret
  exact ⟨v, rfl, Z.out, bel1.trans (z2.mono bel1.size)⟩
set_option maxHeartbeats 1600000 in
theorem implBytContainsAny (g o c : Nat) (s cut : ByteArray) (w : World) (r : Row w g o s) (hs : s.size ≤ 2147483647) (hc : cut.size < 4294967281) (hT : Utf8Tabs 2 3 w) :
    Calls Tryd.prog 41 #[.slice (some ⟨g, o, none⟩) s.size c, .string cut] w (CaPost w s cut) := by
  have HT := Lib.hid hT
  have H := Lib.hid (fun (p1 cap1 : Nat) (W : World) q1 h hm hB => gContainsAny p1 0 cap1 s cut W q1 h hm hs hc (Utf8Tabs_below HT.out hB))
  clear hT
  go_enter Tryd.func41, Tryd.ntmps41
  go_wp2_with fail
  refine (clone g o c s _ (by omega) r).mono ?_
  rintro e w1 ⟨p1, cap1, rfl, p2, p3, p4, p5, k1, q1, bel1⟩
  have Q1 := Lib.hid q1
  clear q1 k1
  go_wp2_with (go_at_call 67; refine (H.out _ _ _ Q1.out p2 p3 bel1).mono ?_; rintro e w4 ⟨v, rfl, z1, z2⟩; have Z := Lib.hid z1; clear z1)
  go_ret
  exact ⟨v, rfl, Z.out, bel1.trans (z2.mono bel1.size)⟩
theorem first_ab : FirstIs (pOf ⟨#[98]⟩) (⟨#[97, 98]⟩ : ByteArray).data.toList 1 := by
  have hm : ∀ c ∈ (⟨#[98]⟩ : ByteArray).data.toList, c.toNat < 128 := by decide
  have h := ascii_at (cut := ⟨#[98]⟩) (l := (⟨#[97, 98]⟩ : ByteArray).data.toList) (i := 1) hm (by decide) (by decide)
  exact .inr ⟨1, rfl, h.1, by decide, h.2, fun k hk h1 => by
    obtain rfl : k = 0 := by omega
    exact ascii_no hm (by decide) (by decide) hk⟩
theorem conv1b {w v : World} (h : Below w.heap.size w v) (o1 : Obj) : Below w.heap.size w (v.alloc o1).drew := (h.alloc h.size o1).drew
theorem below_const1 (v : World) (o1 : Obj) (w3 : World) (hb : Below (v.alloc o1).heap.size (v.alloc o1) w3) : Below v.heap.size v w3 :=
  ((Below.refl _ v).alloc (Nat.le_refl _) o1).trans (hb.mono (by simp))
set_option maxHeartbeats 3200000 in
set_option maxRecDepth 100000 in
theorem walk_FnBytIndexAny (a0 a1 : ByteArray) (w : World) (w0 : a0.size ≤ maxLen) (w1 : a1.size ≤ maxLen) (htab : Lib.Utf8Tabs 2 3 w) :
    Calls Tryd.prog 13 #[.string a0, .string a1] w fun e w' => e = .returned (.bool true) ∧ Below w.heap.size w w' := by
  have hnot : ∀ (x : Bool) (w : World), (Op.unary .not (.bool x)).run Tryd.prog w = .ok (.bool (!x)) w := fun _ _ => rfl
  have hm : maxLen = 9223372036854775807 := rfl
  rw [hm] at w0 w1
  clear hm
  by_cases h0 : 2147483647 < a0.size
  · go_enter Tryd.func13, Tryd.ntmps13
    go_wp2
    go_ret
    exact ⟨rfl, Below.refl _ _⟩
  by_cases h1 : 2147483647 < a1.size
  · go_enter Tryd.func13, Tryd.ntmps13
    go_wp2
    go_ret
    exact ⟨rfl, Below.refl _ _⟩
  have HV0 := Lib.hid (fun (W : World) => specSeValid a0 W (by omega))
  have HV1 := Lib.hid (fun (W : World) => specSeValid a1 W (by omega))
  cases hv0 : validR a0 with
  | false =>
    rw [hv0] at HV0
    go_enter Tryd.func13, Tryd.ntmps13
    go_wp2_with (go_at_call 14; refine (HV0.out _).mono ?_; rintro e w2 ⟨rfl, hB2⟩)
    go_ret
    exact ⟨rfl, hB2⟩
  | true =>
  rw [hv0] at HV0
  cases hv1 : validR a1 with
  | false =>
    rw [hv1] at HV1
    go_enter Tryd.func13, Tryd.ntmps13
    go_wp2_with (first
      | (go_at_call 14; have B1' := B1; refine (HV1.out _).mono ?_; rintro e w2 ⟨rfl, hB2⟩)
      | (go_at_call 14; refine (HV0.out _).mono ?_; rintro e w2 ⟨rfl, B1⟩))
    go_ret
    exact ⟨rfl, B1.trans (hB2.mono B1.size)⟩
  | true =>
  rw [hv1] at HV1
  have HT := Lib.hid htab
  have hfirst := first_is a0 a1
  have hlast := last_is a0 a1
  have hm31 : a0.size ≤ 2147483647 := by omega
  have hc31 : a1.size < 4294967281 := by omega
  have S1 := Lib.hid (fun (W : World) => specFirstOf a0 a1 true W (by omega) (by omega))
  have S2 := Lib.hid (fun (W : World) => specLastOf a0 a1 true W (by omega) (by omega))
  generalize firstW a0 (fun r => hasR a1 r == true) (starts a0) = V1 at *
  generalize lastW a0 (fun r => hasR a1 r == true) (starts a0) (-1) = V2 at *
  have I1 : Hid (∀ (W : World) (g o c : Nat), Below w.heap.size w W → Row W g o a0 → Calls Tryd.prog 38 #[.slice (some ⟨g, o, none⟩) a0.size c, .string a1] W fun e w' => e = .returned (.int .i64 V1) ∧ Below W.heap.size W w') := Lib.hid (fun W g o c hB r => (implBytIndexAny g o c a0 a1 W r hm31 hc31 (Utf8Tabs_below HT.out hB)).mono (fun e w' ⟨v, h1, h2, h3⟩ => ⟨by rw [h1, h2.one hfirst], h3⟩))
  have I2 : Hid (∀ (W : World) (g o c : Nat), Below w.heap.size w W → Row W g o a0 → Calls Tryd.prog 40 #[.slice (some ⟨g, o, none⟩) a0.size c, .string a1] W fun e w' => e = .returned (.int .i64 V2) ∧ Below W.heap.size W w') := Lib.hid (fun W g o c hB r => (implBytLastIndexAny g o c a0 a1 W r hm31 hc31 (Utf8Tabs_below HT.out hB)).mono (fun e w' ⟨v, h1, h2, h3⟩ => ⟨by rw [h1, h2.one hlast], h3⟩))
  have I3 : Hid (∀ (W : World) (g o c : Nat), Below w.heap.size w W → Row W g o a0 → Calls Tryd.prog 41 #[.slice (some ⟨g, o, none⟩) a0.size c, .string a1] W fun e w' => e = .returned (.bool (decide (0 ≤ V1))) ∧ Below W.heap.size W w') := Lib.hid (fun W g o c hB r => (implBytContainsAny g o c a0 a1 W r hm31 hc31 (Utf8Tabs_below HT.out hB)).mono (fun e w' ⟨v, h1, h2, h3⟩ => ⟨by rw [h1, h2.one hfirst], h3⟩))
  have IC : Hid (∀ (W : World) (g o c : Nat), Below w.heap.size w W → Row W g o ⟨#[97, 98]⟩ → Calls Tryd.prog 38 #[.slice (some ⟨g, o, none⟩) 2 c, .string ⟨#[98]⟩] W fun e w' => e = .returned (.int .i64 1) ∧ Below W.heap.size W w') := Lib.hid (fun W g o c hB r => (implBytIndexAny g o c ⟨#[97, 98]⟩ ⟨#[98]⟩ W r (by decide) (by decide) (Utf8Tabs_below HT.out hB)).mono (fun e w' ⟨v, h1, h2, h3⟩ => ⟨by rw [h1, h2.one first_ab], h3⟩))
  have hcv := hconv
  have ka := kc1
  have B0 : Below w.heap.size w w := Below.refl _ _
  clear hfirst hlast htab hv0 hv1
  by_cases hg : 0 ≤ V1
  all_goals
    first | rw [decide_eq_true hg] at I3 | (rw [decide_eq_false hg] at I3; have hgn : V1 < 0 := Int.not_le.1 hg; have hgd : decide (0 ≤ V1) = false := decide_eq_false hg)
    go_enter Tryd.func13, Tryd.ntmps13
    go_wp2_with (first
      | (go_at_call 38; have X := B8; refine Calls.mono (IC.out _ _ _ _ (B8.alloc B8.size _) (Row.const _ ⟨#[97, 98]⟩ #[.int .u8 97, .int .u8 98] (by kernel_rfl) _ _)) ?_; rintro e w9 ⟨rfl, z⟩; have B9 := B8.trans ((below_const1 _ _ _ z).mono B8.size); clear X z)
      | (go_at_call 39; have X := B7; refine (S1.out _).mono ?_; rintro e w8 ⟨rfl, z⟩; have B8 := B7.trans (z.mono B7.size); clear X z)
      | (go_at_call 41; have X := B6; refine Calls.mono (I3.out _ _ _ _ (conv1b B6 _) ((Row.new _ _ _ _ _).drew)) ?_; rintro e w7 ⟨rfl, z⟩; have B7 := B6.trans ((below_conv1 _ _ _ z).mono B6.size); clear X z)
      | (go_at_call 21; have X := B5; refine (S2.out _).mono ?_; rintro e w6 ⟨rfl, z⟩; have B6 := B5.trans (z.mono B5.size); clear X z)
      | (go_at_call 40; have X := B4; refine Calls.mono (I2.out _ _ _ _ (conv1b B4 _) ((Row.new _ _ _ _ _).drew)) ?_; rintro e w5 ⟨rfl, z⟩; have B5 := B4.trans ((below_conv1 _ _ _ z).mono B4.size); clear X z)
      | (go_at_call 39; have X := B3; refine (S1.out _).mono ?_; rintro e w4 ⟨rfl, z⟩; have B4 := B3.trans (z.mono B3.size); clear X z)
      | (go_at_call 38; have X := B2; refine Calls.mono (I1.out _ _ _ _ (conv1b B2 _) ((Row.new _ _ _ _ _).drew)) ?_; rintro e w3 ⟨rfl, z⟩; have B3 := B2.trans ((below_conv1 _ _ _ z).mono B2.size); clear X z)
      | (go_at_call 14; have X := B1; refine (HV1.out _).mono ?_; rintro e w2 ⟨rfl, z⟩; have B2 := B1.trans (z.mono B1.size); clear X z)
      | (go_at_call 14; have X := B0; refine (HV0.out _).mono ?_; rintro e w1 ⟨rfl, z⟩; have B1 := B0.trans (z.mono B0.size); clear X z))
    all_goals (go_ret; exact ⟨rfl, B9⟩)
end Go.Proofs.YthnbifkcbeldmaaDoor
