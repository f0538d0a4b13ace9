/- impl.BytTrim, BytTrimLeft, BytTrimRight; the law FnBytTrim. -/
import Derived.Test.YthnbifkcbeldmaaDoorBTrimAll
import Derived.Test.YthnbifkcbeldmaaDoorRegKd
namespace Go.Proofs.YthnbifkcbeldmaaDoor
open Go Go.Shelf Go.RowKit Go.Lib
set_option linter.unusedVariables false
theorem trimL_size (p : Nat → Bool) (s : ByteArray) : (⟨(trimL p s.data.toList).toArray⟩ : ByteArray).size ≤ s.size := by
  rw [Go.Lib.size_mk, trimL, List.length_drop, ← Lib.size_eq]; omega
theorem trimR_size (p : Nat → Bool) (s : ByteArray) : (⟨(trimR p s.data.toList).toArray⟩ : ByteArray).size ≤ s.size := by
  rw [Go.Lib.size_mk, trimR, List.length_take, ← Lib.size_eq]; omega
theorem trimB_size (p : Nat → Bool) (s : ByteArray) : (⟨(trimB p s.data.toList).toArray⟩ : ByteArray).size ≤ s.size := by
  have h : (trimR p s.data.toList).length ≤ s.size := by rw [trimR, List.length_take, ← Lib.size_eq]; omega
  rw [Go.Lib.size_mk, trimB, trimL, List.length_drop]; omega
set_option maxHeartbeats 1600000 in
theorem implBytTrimLeft (g o c : Nat) (s cut : ByteArray) (w : World) (r : Row w g o s) (hs : s.size ≤ 2147483647) (hc : cut.size < 4294967281) (hT : Utf8Tabs 2 3 w) :
    Calls Tryd.prog 17 #[.slice (some ⟨g, o, none⟩) s.size c, .string cut] w (RetRow w ⟨(trimL (pOf cut) s.data.toList).toArray⟩) := by
  have hl := trimL_size (pOf cut) s
  have HT := Lib.hid hT
  have H := Lib.hid (fun (p1 cap1 : Nat) (W : World) q1 h hm hB => gbTrimLeft p1 0 cap1 s cut W q1 h hm hc (Utf8Tabs_below HT.out hB))
  generalize (⟨(trimL (pOf cut) s.data.toList).toArray⟩ : ByteArray) = R at *
  clear hT
  go_enter Tryd.func17, Tryd.ntmps17
  go_wp2_with fail
  refine (clone g o c s _ (by omega) r).mono ?_
  rintro e w1 ⟨p1, cap1, rfl, p2, p3, p4, p5, k1, q1, bel1⟩
  have Q1 := Lib.hid q1
  clear q1 k1
  go_wp2_with (go_at_call 45; refine (H.out _ _ _ Q1.out p2 p3 bel1).mono ?_; rintro e w4 ⟨p, cap, rfl, z1, z2, z3, z4, z5⟩; have Z := Lib.hid (And.intro z3 z4); clear z3 z4)
  refine (cloneRet p cap R _ (by omega) Z.out).mono ?_
  rintro e w5 ⟨p', cap', rfl, y1, y2, y3, y4, y5⟩
  have Y := Lib.hid (And.intro y3 y4)
  clear y3 y4
  go_wp2_with fail
  go_ret
  exact ⟨p', cap', rfl, y1, y2, Y.out.1, Y.out.2, chain (chain bel1 z5) y5⟩
set_option maxHeartbeats 1600000 in
theorem implBytTrimRight (g o c : Nat) (s cut : ByteArray) (w : World) (r : Row w g o s) (hs : s.size ≤ 2147483647) (hc : cut.size < 4294967281) (hT : Utf8Tabs 2 3 w) :
    Calls Tryd.prog 18 #[.slice (some ⟨g, o, none⟩) s.size c, .string cut] w (RetRow w ⟨(trimR (pOf cut) s.data.toList).toArray⟩) := by
  have hl := trimR_size (pOf cut) s
  have HT := Lib.hid hT
  have H := Lib.hid (fun (p1 cap1 : Nat) (W : World) q1 h hm hB => gbTrimRight p1 0 cap1 s cut W q1 h hm hc (Utf8Tabs_below HT.out hB))
  generalize (⟨(trimR (pOf cut) s.data.toList).toArray⟩ : ByteArray) = R at *
  clear hT
  go_enter Tryd.func18, Tryd.ntmps18
  go_wp2_with fail
  refine (clone g o c s _ (by omega) r).mono ?_
  rintro e w1 ⟨p1, cap1, rfl, p2, p3, p4, p5, k1, q1, bel1⟩
  have Q1 := Lib.hid q1
  clear q1 k1
  go_wp2_with (go_at_call 46; refine (H.out _ _ _ Q1.out p2 p3 bel1).mono ?_; rintro e w4 ⟨p, cap, rfl, z1, z2, z3, z4, z5⟩; have Z := Lib.hid (And.intro z3 z4); clear z3 z4)
  refine (cloneRet p cap R _ (by omega) Z.out).mono ?_
  rintro e w5 ⟨p', cap', rfl, y1, y2, y3, y4, y5⟩
  have Y := Lib.hid (And.intro y3 y4)
  clear y3 y4
  go_wp2_with fail
  go_ret
  exact ⟨p', cap', rfl, y1, y2, Y.out.1, Y.out.2, chain (chain bel1 z5) y5⟩
set_option maxHeartbeats 1600000 in
theorem implBytTrim (g o c : Nat) (s cut : ByteArray) (w : World) (r : Row w g o s) (hs : s.size ≤ 2147483647) (hc : cut.size < 4294967281) (hT : Utf8Tabs 2 3 w) :
    Calls Tryd.prog 19 #[.slice (some ⟨g, o, none⟩) s.size c, .string cut] w (RetRow w ⟨(trimB (pOf cut) s.data.toList).toArray⟩) := by
  have hl := trimB_size (pOf cut) s
  have HT := Lib.hid hT
  have H := Lib.hid (fun (p1 cap1 : Nat) (W : World) q1 h hm hB => gbTrim p1 0 cap1 s cut W q1 h hm hc (Utf8Tabs_below HT.out hB))
  generalize (⟨(trimB (pOf cut) s.data.toList).toArray⟩ : ByteArray) = R at *
  clear hT
  go_enter Tryd.func19, Tryd.ntmps19
  go_wp2_with fail
  refine (clone g o c s _ (by omega) r).mono ?_
  rintro e w1 ⟨p1, cap1, rfl, p2, p3, p4, p5, k1, q1, bel1⟩
  have Q1 := Lib.hid q1
  clear q1 k1
  go_wp2_with (go_at_call 47; refine (H.out _ _ _ Q1.out p2 p3 bel1).mono ?_; rintro e w4 ⟨p, cap, rfl, z1, z2, z3, z4, z5⟩; have Z := Lib.hid (And.intro z3 z4); clear z3 z4)
  refine (cloneRet p cap R _ (by omega) Z.out).mono ?_
  rintro e w5 ⟨p', cap', rfl, y1, y2, y3, y4, y5⟩
  have Y := Lib.hid (And.intro y3 y4)
  clear y3 y4
  go_wp2_with fail
  go_ret
  exact ⟨p', cap', rfl, y1, y2, Y.out.1, Y.out.2, chain (chain bel1 z5) y5⟩
def trK (a0 a1 L R T : ByteArray) : Nat → Kd
  | 4 => .tru
  | 29 => .str a0
  | 30 => .row a0
  | 31 => .str a1
  | 32 => .ret L
  | 33 => .str L
  | 34 => .str L
  | 35 => .tru
  | 36 => .tru
  | 37 => .str a0
  | 38 => .row a0
  | 39 => .str a1
  | 40 => .ret R
  | 41 => .str R
  | 42 => .str R
  | 43 => .tru
  | 44 => .tru
  | 45 => .tru
  | 46 => .str a0
  | 47 => .row a0
  | 48 => .str a1
  | 49 => .ret T
  | 50 => .str T
  | 51 => .str L
  | 52 => .str a1
  | 53 => .str T
  | 54 => .tru
  | 55 => .tru
  | 56 => .tru
  | 57 => .cst C1
  | 58 => .row C1
  | 59 => .ret CA
  | 60 => .str CA
  | 61 => .tru
  | 62 => .tru
  | _ => .any
set_option maxHeartbeats 3200000 in
set_option maxRecDepth 100000 in
theorem walk_FnBytTrim (a0 a1 : ByteArray) (w : World) (w0 : a0.size ≤ maxLen) (w1 : a1.size ≤ maxLen) (htab : Lib.Utf8Tabs 2 3 w) :
    Calls Tryd.prog 3 #[.string a0, .string a1] w fun e w' => e = .returned (.bool true) ∧ Below w.heap.size w w' := by
  have hnot : ∀ (x : Bool) (w : World), (Op.unary .not (.bool x)).run Tryd.prog w = .ok (.bool (!x)) w := fun _ _ => rfl
  have hm : maxLen = 9223372036854775807 := rfl
  rw [hm] at w0 w1
  clear hm
  by_cases h0 : 2147483647 < a0.size
  · go_enter Tryd.func3, Tryd.ntmps3
    go_wp2
    go_ret
    exact ⟨rfl, Below.refl _ _⟩
  by_cases h1 : 2147483647 < a1.size
  · go_enter Tryd.func3, Tryd.ntmps3
    go_wp2
    go_ret
    exact ⟨rfl, Below.refl _ _⟩
  have HV0 := Lib.hid (fun (W : World) => specSeValid a0 W (by omega))
  have HV1 := Lib.hid (fun (W : World) => specSeValid a1 W (by omega))
  cases hv0 : validR a0 with
  | false =>
    rw [hv0] at HV0
    go_enter Tryd.func3, Tryd.ntmps3
    go_wp2_with (go_at_call 14; refine (HV0.out _).mono ?_; rintro e w2 ⟨rfl, hB2⟩)
    go_ret
    exact ⟨rfl, hB2⟩
  | true =>
  rw [hv0] at HV0
  cases hv1 : validR a1 with
  | false =>
    rw [hv1] at HV1
    go_enter Tryd.func3, Tryd.ntmps3
    go_wp2_with (first
      | (go_at_call 14; have B1' := B1; refine (HV1.out _).mono ?_; rintro e w2 ⟨rfl, hB2⟩)
      | (go_at_call 14; refine (HV0.out _).mono ?_; rintro e w2 ⟨rfl, B1⟩))
    go_ret
    exact ⟨rfl, B1.trans (hB2.mono B1.size)⟩
  | true =>
  rw [hv1] at HV1
  obtain ⟨hl1, hl2, hl3⟩ := trim_le (pOf a1) a0.data.toList
  rw [← Lib.size_eq] at hl1 hl2 hl3
  obtain ⟨L, hL⟩ : ∃ L : ByteArray, L = ⟨(trimL (pOf a1) a0.data.toList).toArray⟩ := ⟨_, rfl⟩
  obtain ⟨R, hR⟩ : ∃ R : ByteArray, R = ⟨(trimR (pOf a1) a0.data.toList).toArray⟩ := ⟨_, rfl⟩
  obtain ⟨T, hT⟩ : ∃ T : ByteArray, T = ⟨(trimB (pOf a1) a0.data.toList).toArray⟩ := ⟨_, rfl⟩
  have hLd : L.data.toList = trimL (pOf a1) a0.data.toList := by rw [hL]
  have hLs : L.size ≤ a0.size := by rw [hL, Lib.size_mk]; exact hl2
  have hTT := (trim_twice (pOf a1) a0.data.toList).2
  have HT := Lib.hid htab
  have S1 : Hid (∀ W, Calls Tryd.prog 15 #[.string a0, .string a1] W fun e w' => e = .returned (.string L) ∧ Below W.heap.size W w') := Lib.hid (fun W => by rw [hL]; exact specTrimLeft a0 a1 W (by omega) (by omega))
  have S2 : Hid (∀ W, Calls Tryd.prog 16 #[.string a0, .string a1] W fun e w' => e = .returned (.string R) ∧ Below W.heap.size W w') := Lib.hid (fun W => by rw [hR]; exact specTrimRight a0 a1 W (by omega) (by omega))
  have S3 : Hid (∀ W, Calls Tryd.prog 16 #[.string L, .string a1] W fun e w' => e = .returned (.string T) ∧ Below W.heap.size W w') := Lib.hid (fun W => by
    have h := specTrimRight L a1 W (by omega) (by omega)
    rw [hLd, hTT, ← hT] at h
    exact h)
  have hm31 : a0.size ≤ 2147483647 := by omega
  have hc31 : a1.size < 4294967281 := by omega
  have I1 : Hid (∀ (W : World) (g o c : Nat), Below w.heap.size w W → Row W g o a0 → Calls Tryd.prog 17 #[.slice (some ⟨g, o, none⟩) a0.size c, .string a1] W (RetRow W L)) := Lib.hid (fun W g o c hB r => by rw [hL]; exact implBytTrimLeft g o c a0 a1 W r hm31 hc31 (Utf8Tabs_below HT.out hB))
  have I2 : Hid (∀ (W : World) (g o c : Nat), Below w.heap.size w W → Row W g o a0 → Calls Tryd.prog 18 #[.slice (some ⟨g, o, none⟩) a0.size c, .string a1] W (RetRow W R)) := Lib.hid (fun W g o c hB r => by rw [hR]; exact implBytTrimRight g o c a0 a1 W r hm31 hc31 (Utf8Tabs_below HT.out hB))
  have I3 : Hid (∀ (W : World) (g o c : Nat), Below w.heap.size w W → Row W g o a0 → Calls Tryd.prog 19 #[.slice (some ⟨g, o, none⟩) a0.size c, .string a1] W (RetRow W T)) := Lib.hid (fun W g o c hB r => by rw [hT]; exact implBytTrim g o c a0 a1 W r hm31 hc31 (Utf8Tabs_below HT.out hB))
  have I4 : Hid (∀ (W : World) (g o c : Nat), Below w.heap.size w W → Row W g o C1 → Calls Tryd.prog 19 #[.slice (some ⟨g, o, none⟩) C1.size c, .string C2] W (RetRow W CA)) := Lib.hid (fun W g o c hB r => by
    have h := implBytTrim g o c C1 C2 W r (by decide) (by decide) (Utf8Tabs_below HT.out hB)
    rw [show C1.data.toList = [97, 98] from rfl, show C2 = ⟨#[98]⟩ from rfl, trim_ab] at h
    exact h)
  have hbs1 : ∀ (a : Act) (W : World), (Instr.buildSlice 24 2 (#[(0, Operand.const (.int .u8 97)), (1, Operand.const (.int .u8 98))].map fun (i, x) => (i, a.eval x))).run Tryd.prog W = .ok (.slice (some ⟨W.heap.size, 0, none⟩) C1.size C1.size) (W.alloc (.cells (bytesRow C1 C1.size) 5)) := fun a W => by kernel_rfl
  clear hl1 hl2 hl3 hL hR hT hLd hLs hTT htab hv0 hv1
  go_enter Tryd.func3, Tryd.ntmps3
  go_wp2_with (first
    | (go_at_call 16; have B3' := B3; refine (S2.out _).mono ?_; rintro e w4 ⟨rfl, hB4⟩; have C4 : Below w.heap.size w w4 := B3.trans (hB4.mono B3.size); have s4 := C4.size)
    | (go_at_call 15; have B2' := B2; refine (S1.out _).mono ?_; rintro e w3 ⟨rfl, hB3⟩; have B3 := B2.trans (hB3.mono B2.size))
    | (go_at_call 14; have B1' := B1; refine (HV1.out _).mono ?_; rintro e w2 ⟨rfl, hB2⟩; have B2 := B1.trans (hB2.mono B1.size))
    | (go_at_call 14; refine (HV0.out _).mono ?_; rintro e w1' ⟨rfl, B1⟩))
  refine region_inv (by kernel_rfl) [] 63 [(0, .string a0), (1, .string a1), (5, .string L), (6, .string R)] (fun d => kS w.heap.size (trK a0 a1 L R T d)) (fun W => Below w.heap.size w W) (by kernel_rfl) [29, 30, 31, 32, 33, 34, 35, 36, 37, 38, 39, 40, 41, 42, 43, 44, 45, 46, 47, 48, 49, 50, 51, 52, 53, 54, 55, 56, 57, 58, 59, 60, 61, 62, 4] (by rfl) (by decide) (by simp) ⟨rfl, rfl, by simp, C4.drew⟩ ⟨?_, ?_, ?_, ?_, ?_, ?_, ?_, ?_, ?_, ?_, ?_, ?_, ?_, ?_, ?_, ?_, ?_, ?_, ?_, ?_, ?_, ?_, ?_, ?_, ?_, ?_, ?_, ?_, ?_, ?_, ?_, ?_, ?_, ?_, ?_, trivial⟩ ?_
  · intro d a W hdd hf hG hd
    obtain rfl : 29 = d := Option.some.inj hdd
    refine ⟨wanted_none rfl, fun K hK => ?_⟩
    refine wp_val (ex_move rfl) (hK _ _ hG (fun _ _ h => h) ?_)
    exact hf (0, .string a0) (by simp)
  · intro d a W hdd hf hG hd
    obtain rfl : 30 = d := Option.some.inj hdd
    obtain ⟨v1, m1, e1, s1⟩ := hd ⟨0, .data⟩ (by simp) rfl _ _ rfl rfl
    obtain rfl : v1 = .string a0 := s1
    refine ⟨wanted_none rfl, fun K hK => ?_⟩
    refine wp_val (ex_convert rfl (by rw [e1]; exact hconv W a0)) (hK _ _ (by (repeat (first | exact Below.refl _ _ | assumption | refine Below.drew ?_ | refine Below.alloc ?_ (by first | exact Below.size (by assumption) | (simp; try omega)) _))) (fun _ _ h => kS_stp (Stp.below (by (repeat (first | exact Below.refl _ _ | assumption | refine Below.drew ?_ | refine Below.alloc ?_ (by first | exact Below.size (by assumption) | (simp; try omega)) _)))) h) ?_)
    exact ⟨_, 0, _, rfl, by (repeat (first | exact Row.new1 _ _ _ _ _ _ (by simp) | refine Row.drew ?_ | refine Row.alloc ?_ _))⟩
  · intro d a W hdd hf hG hd
    obtain rfl : 31 = d := Option.some.inj hdd
    refine ⟨wanted_none rfl, fun K hK => ?_⟩
    refine wp_val (ex_move rfl) (hK _ _ hG (fun _ _ h => h) ?_)
    exact hf (1, .string a1) (by simp)
  · intro d a W hdd hf hG hd
    obtain rfl : 32 = d := Option.some.inj hdd
    obtain ⟨v1, m1, e1, s1⟩ := hd ⟨1, .data⟩ (by simp) rfl _ _ rfl rfl
    obtain ⟨v2, m2, e2, s2⟩ := hd ⟨2, .data⟩ (by simp) rfl _ _ rfl rfl
    obtain ⟨g1, o1, c1, rfl, r1⟩ : RowV a0 v1 W := s1
    obtain rfl : v2 = .string a1 := s2
    refine ⟨wanted_none rfl, fun K hK => ?_⟩
    refine wp_call (ex_call rfl (enters_of Tryd.func17 (by kernel_rfl) rfl)) ?_
    rw [show (#[Operand.tmp 30, .tmp 31].map a.eval : Array Value) = #[a.eval (.tmp 30), a.eval (.tmp 31)] from (by kernel_rfl), e1, e2]
    refine (I1.out W g1 o1 c1 hG r1).mono ?_
    rintro e w9 ⟨p, cap, rfl, z1, z2, z3, z4, z5⟩
    exact ⟨_, rfl, hK _ _ (chainB hG z5) (fun _ _ h => kS_stp (Stp.below z5) h) ⟨p, cap, rfl, z3, z4⟩⟩
  · intro d a W hdd hf hG hd
    obtain rfl : 33 = d := Option.some.inj hdd
    obtain ⟨v1, m1, e1, s1⟩ := hd ⟨3, .data⟩ (by simp) rfl _ _ rfl rfl
    obtain ⟨p, cap, rfl, hra⟩ : RetV L v1 W := s1
    refine ⟨wanted_none rfl, fun K hK => ?_⟩
    refine wp_val (ex_convert rfl (by rw [e1]; exact hbackRet W p cap L hra)) (hK _ _ hG (fun _ _ h => h) ?_)
    exact rfl
  · intro d a W hdd hf hG hd
    obtain rfl : 34 = d := Option.some.inj hdd
    refine ⟨wanted_none rfl, fun K hK => ?_⟩
    refine wp_val (ex_move rfl) (hK _ _ hG (fun _ _ h => h) ?_)
    exact hf (5, .string L) (by simp)
  · intro d a W hdd hf hG hd
    obtain rfl : 35 = d := Option.some.inj hdd
    obtain ⟨v1, m1, e1, s1⟩ := hd ⟨4, .data⟩ (by simp) rfl _ _ rfl rfl
    obtain ⟨v2, m2, e2, s2⟩ := hd ⟨5, .data⟩ (by simp) rfl _ _ rfl rfl
    obtain rfl : v1 = .string L := s1
    obtain rfl : v2 = .string L := s2
    refine ⟨wanted_none rfl, fun K hK => ?_⟩
    refine wp_val (ex_eql rfl e1 e2) (hK _ _ hG (fun _ _ h => h) ?_)
    exact rfl
  · intro d a W hdd hf hG hd
    obtain rfl : 36 = d := Option.some.inj hdd
    obtain ⟨v1, m1, e1, s1⟩ := hd ⟨6, .data⟩ (by simp) rfl _ _ rfl rfl
    obtain rfl : v1 = .bool true := s1
    refine ⟨wanted_none rfl, fun K hK => ?_⟩
    refine wp_val (ex_move rfl) (hK _ _ hG (fun _ _ h => h) ?_)
    exact e1
  · intro d a W hdd hf hG hd
    obtain rfl : 37 = d := Option.some.inj hdd
    obtain ⟨v99, m99, e99, s99⟩ := hd ⟨7, .guard⟩ (by simp) rfl _ _ rfl rfl
    obtain rfl : v99 = .bool true := s99
    refine ⟨wanted_some rfl rfl rfl m99, fun K hK => ?_⟩
    refine wp_val (ex_move rfl) (hK _ _ hG (fun _ _ h => h) ?_)
    exact hf (0, .string a0) (by simp)
  · intro d a W hdd hf hG hd
    obtain rfl : 38 = d := Option.some.inj hdd
    obtain ⟨v99, m99, e99, s99⟩ := hd ⟨7, .guard⟩ (by simp) rfl _ _ rfl rfl
    obtain rfl : v99 = .bool true := s99
    obtain ⟨v1, m1, e1, s1⟩ := hd ⟨8, .data⟩ (by simp) rfl _ _ rfl rfl
    obtain rfl : v1 = .string a0 := s1
    refine ⟨wanted_some rfl rfl rfl m99, fun K hK => ?_⟩
    refine wp_val (ex_convert rfl (by rw [e1]; exact hconv W a0)) (hK _ _ (by (repeat (first | exact Below.refl _ _ | assumption | refine Below.drew ?_ | refine Below.alloc ?_ (by first | exact Below.size (by assumption) | (simp; try omega)) _))) (fun _ _ h => kS_stp (Stp.below (by (repeat (first | exact Below.refl _ _ | assumption | refine Below.drew ?_ | refine Below.alloc ?_ (by first | exact Below.size (by assumption) | (simp; try omega)) _)))) h) ?_)
    exact ⟨_, 0, _, rfl, by (repeat (first | exact Row.new1 _ _ _ _ _ _ (by simp) | refine Row.drew ?_ | refine Row.alloc ?_ _))⟩
  · intro d a W hdd hf hG hd
    obtain rfl : 39 = d := Option.some.inj hdd
    obtain ⟨v99, m99, e99, s99⟩ := hd ⟨7, .guard⟩ (by simp) rfl _ _ rfl rfl
    obtain rfl : v99 = .bool true := s99
    refine ⟨wanted_some rfl rfl rfl m99, fun K hK => ?_⟩
    refine wp_val (ex_move rfl) (hK _ _ hG (fun _ _ h => h) ?_)
    exact hf (1, .string a1) (by simp)
  · intro d a W hdd hf hG hd
    obtain rfl : 40 = d := Option.some.inj hdd
    obtain ⟨v99, m99, e99, s99⟩ := hd ⟨7, .guard⟩ (by simp) rfl _ _ rfl rfl
    obtain rfl : v99 = .bool true := s99
    obtain ⟨v1, m1, e1, s1⟩ := hd ⟨9, .data⟩ (by simp) rfl _ _ rfl rfl
    obtain ⟨v2, m2, e2, s2⟩ := hd ⟨10, .data⟩ (by simp) rfl _ _ rfl rfl
    obtain ⟨g1, o1, c1, rfl, r1⟩ : RowV a0 v1 W := s1
    obtain rfl : v2 = .string a1 := s2
    refine ⟨wanted_some rfl rfl rfl m99, fun K hK => ?_⟩
    refine wp_call (ex_call rfl (enters_of Tryd.func18 (by kernel_rfl) rfl)) ?_
    rw [show (#[Operand.tmp 38, .tmp 39].map a.eval : Array Value) = #[a.eval (.tmp 38), a.eval (.tmp 39)] from (by kernel_rfl), e1, e2]
    refine (I2.out W g1 o1 c1 hG r1).mono ?_
    rintro e w9 ⟨p, cap, rfl, z1, z2, z3, z4, z5⟩
    exact ⟨_, rfl, hK _ _ (chainB hG z5) (fun _ _ h => kS_stp (Stp.below z5) h) ⟨p, cap, rfl, z3, z4⟩⟩
  · intro d a W hdd hf hG hd
    obtain rfl : 41 = d := Option.some.inj hdd
    obtain ⟨v99, m99, e99, s99⟩ := hd ⟨7, .guard⟩ (by simp) rfl _ _ rfl rfl
    obtain rfl : v99 = .bool true := s99
    obtain ⟨v1, m1, e1, s1⟩ := hd ⟨11, .data⟩ (by simp) rfl _ _ rfl rfl
    obtain ⟨p, cap, rfl, hra⟩ : RetV R v1 W := s1
    refine ⟨wanted_some rfl rfl rfl m99, fun K hK => ?_⟩
    refine wp_val (ex_convert rfl (by rw [e1]; exact hbackRet W p cap R hra)) (hK _ _ hG (fun _ _ h => h) ?_)
    exact rfl
  · intro d a W hdd hf hG hd
    obtain rfl : 42 = d := Option.some.inj hdd
    obtain ⟨v99, m99, e99, s99⟩ := hd ⟨7, .guard⟩ (by simp) rfl _ _ rfl rfl
    obtain rfl : v99 = .bool true := s99
    refine ⟨wanted_some rfl rfl rfl m99, fun K hK => ?_⟩
    refine wp_val (ex_move rfl) (hK _ _ hG (fun _ _ h => h) ?_)
    exact hf (6, .string R) (by simp)
  · intro d a W hdd hf hG hd
    obtain rfl : 43 = d := Option.some.inj hdd
    obtain ⟨v99, m99, e99, s99⟩ := hd ⟨7, .guard⟩ (by simp) rfl _ _ rfl rfl
    obtain rfl : v99 = .bool true := s99
    obtain ⟨v1, m1, e1, s1⟩ := hd ⟨12, .data⟩ (by simp) rfl _ _ rfl rfl
    obtain ⟨v2, m2, e2, s2⟩ := hd ⟨13, .data⟩ (by simp) rfl _ _ rfl rfl
    obtain rfl : v1 = .string R := s1
    obtain rfl : v2 = .string R := s2
    refine ⟨wanted_some rfl rfl rfl m99, fun K hK => ?_⟩
    refine wp_val (ex_eql rfl e1 e2) (hK _ _ hG (fun _ _ h => h) ?_)
    exact rfl
  · intro d a W hdd hf hG hd
    obtain rfl : 44 = d := Option.some.inj hdd
    obtain ⟨v1, m1, e1, s1⟩ := hd ⟨7, .data⟩ (by simp) rfl _ _ rfl rfl
    obtain ⟨v2, m2, e2, s2⟩ := hd ⟨14, .data⟩ (by simp) rfl _ _ rfl rfl
    obtain rfl : v1 = .bool true := s1
    obtain rfl : v2 = .bool true := s2
    refine ⟨wanted_none rfl, fun K hK => ?_⟩
    refine wp_val (ex_pick rfl e1) (hK _ _ hG (fun _ _ h => h) ?_)
    exact e2
  · intro d a W hdd hf hG hd
    obtain rfl : 45 = d := Option.some.inj hdd
    obtain ⟨v1, m1, e1, s1⟩ := hd ⟨15, .data⟩ (by simp) rfl _ _ rfl rfl
    obtain rfl : v1 = .bool true := s1
    refine ⟨wanted_none rfl, fun K hK => ?_⟩
    refine wp_val (ex_move rfl) (hK _ _ hG (fun _ _ h => h) ?_)
    exact e1
  · intro d a W hdd hf hG hd
    obtain rfl : 46 = d := Option.some.inj hdd
    obtain ⟨v99, m99, e99, s99⟩ := hd ⟨16, .guard⟩ (by simp) rfl _ _ rfl rfl
    obtain rfl : v99 = .bool true := s99
    refine ⟨wanted_some rfl rfl rfl m99, fun K hK => ?_⟩
    refine wp_val (ex_move rfl) (hK _ _ hG (fun _ _ h => h) ?_)
    exact hf (0, .string a0) (by simp)
  · intro d a W hdd hf hG hd
    obtain rfl : 47 = d := Option.some.inj hdd
    obtain ⟨v99, m99, e99, s99⟩ := hd ⟨16, .guard⟩ (by simp) rfl _ _ rfl rfl
    obtain rfl : v99 = .bool true := s99
    obtain ⟨v1, m1, e1, s1⟩ := hd ⟨17, .data⟩ (by simp) rfl _ _ rfl rfl
    obtain rfl : v1 = .string a0 := s1
    refine ⟨wanted_some rfl rfl rfl m99, fun K hK => ?_⟩
    refine wp_val (ex_convert rfl (by rw [e1]; exact hconv W a0)) (hK _ _ (by (repeat (first | exact Below.refl _ _ | assumption | refine Below.drew ?_ | refine Below.alloc ?_ (by first | exact Below.size (by assumption) | (simp; try omega)) _))) (fun _ _ h => kS_stp (Stp.below (by (repeat (first | exact Below.refl _ _ | assumption | refine Below.drew ?_ | refine Below.alloc ?_ (by first | exact Below.size (by assumption) | (simp; try omega)) _)))) h) ?_)
    exact ⟨_, 0, _, rfl, by (repeat (first | exact Row.new1 _ _ _ _ _ _ (by simp) | refine Row.drew ?_ | refine Row.alloc ?_ _))⟩
  · intro d a W hdd hf hG hd
    obtain rfl : 48 = d := Option.some.inj hdd
    obtain ⟨v99, m99, e99, s99⟩ := hd ⟨16, .guard⟩ (by simp) rfl _ _ rfl rfl
    obtain rfl : v99 = .bool true := s99
    refine ⟨wanted_some rfl rfl rfl m99, fun K hK => ?_⟩
    refine wp_val (ex_move rfl) (hK _ _ hG (fun _ _ h => h) ?_)
    exact hf (1, .string a1) (by simp)
  · intro d a W hdd hf hG hd
    obtain rfl : 49 = d := Option.some.inj hdd
    obtain ⟨v99, m99, e99, s99⟩ := hd ⟨16, .guard⟩ (by simp) rfl _ _ rfl rfl
    obtain rfl : v99 = .bool true := s99
    obtain ⟨v1, m1, e1, s1⟩ := hd ⟨18, .data⟩ (by simp) rfl _ _ rfl rfl
    obtain ⟨v2, m2, e2, s2⟩ := hd ⟨19, .data⟩ (by simp) rfl _ _ rfl rfl
    obtain ⟨g1, o1, c1, rfl, r1⟩ : RowV a0 v1 W := s1
    obtain rfl : v2 = .string a1 := s2
    refine ⟨wanted_some rfl rfl rfl m99, fun K hK => ?_⟩
    refine wp_call (ex_call rfl (enters_of Tryd.func19 (by kernel_rfl) rfl)) ?_
    rw [show (#[Operand.tmp 47, .tmp 48].map a.eval : Array Value) = #[a.eval (.tmp 47), a.eval (.tmp 48)] from (by kernel_rfl), e1, e2]
    refine (I3.out W g1 o1 c1 hG r1).mono ?_
    rintro e w9 ⟨p, cap, rfl, z1, z2, z3, z4, z5⟩
    exact ⟨_, rfl, hK _ _ (chainB hG z5) (fun _ _ h => kS_stp (Stp.below z5) h) ⟨p, cap, rfl, z3, z4⟩⟩
  · intro d a W hdd hf hG hd
    obtain rfl : 50 = d := Option.some.inj hdd
    obtain ⟨v99, m99, e99, s99⟩ := hd ⟨16, .guard⟩ (by simp) rfl _ _ rfl rfl
    obtain rfl : v99 = .bool true := s99
    obtain ⟨v1, m1, e1, s1⟩ := hd ⟨20, .data⟩ (by simp) rfl _ _ rfl rfl
    obtain ⟨p, cap, rfl, hra⟩ : RetV T v1 W := s1
    refine ⟨wanted_some rfl rfl rfl m99, fun K hK => ?_⟩
    refine wp_val (ex_convert rfl (by rw [e1]; exact hbackRet W p cap T hra)) (hK _ _ hG (fun _ _ h => h) ?_)
    exact rfl
  · intro d a W hdd hf hG hd
    obtain rfl : 51 = d := Option.some.inj hdd
    obtain ⟨v99, m99, e99, s99⟩ := hd ⟨16, .guard⟩ (by simp) rfl _ _ rfl rfl
    obtain rfl : v99 = .bool true := s99
    refine ⟨wanted_some rfl rfl rfl m99, fun K hK => ?_⟩
    refine wp_val (ex_move rfl) (hK _ _ hG (fun _ _ h => h) ?_)
    exact hf (5, .string L) (by simp)
  · intro d a W hdd hf hG hd
    obtain rfl : 52 = d := Option.some.inj hdd
    obtain ⟨v99, m99, e99, s99⟩ := hd ⟨16, .guard⟩ (by simp) rfl _ _ rfl rfl
    obtain rfl : v99 = .bool true := s99
    refine ⟨wanted_some rfl rfl rfl m99, fun K hK => ?_⟩
    refine wp_val (ex_move rfl) (hK _ _ hG (fun _ _ h => h) ?_)
    exact hf (1, .string a1) (by simp)
  · intro d a W hdd hf hG hd
    obtain rfl : 53 = d := Option.some.inj hdd
    obtain ⟨v99, m99, e99, s99⟩ := hd ⟨16, .guard⟩ (by simp) rfl _ _ rfl rfl
    obtain rfl : v99 = .bool true := s99
    obtain ⟨v1, m1, e1, s1⟩ := hd ⟨22, .data⟩ (by simp) rfl _ _ rfl rfl
    obtain ⟨v2, m2, e2, s2⟩ := hd ⟨23, .data⟩ (by simp) rfl _ _ rfl rfl
    obtain rfl : v1 = .string L := s1
    obtain rfl : v2 = .string a1 := s2
    refine ⟨wanted_some rfl rfl rfl m99, fun K hK => ?_⟩
    refine wp_call (ex_call rfl (enters_of Tryd.func16 (by kernel_rfl) rfl)) ?_
    rw [show (#[Operand.tmp 51, .tmp 52].map a.eval : Array Value) = #[a.eval (.tmp 51), a.eval (.tmp 52)] from (by kernel_rfl), e1, e2]
    refine (S3.out W).mono ?_
    rintro e w9 ⟨rfl, z5⟩
    exact ⟨_, rfl, hK _ _ (chainB hG z5) (fun _ _ h => kS_stp (Stp.below z5) h) rfl⟩
  · intro d a W hdd hf hG hd
    obtain rfl : 54 = d := Option.some.inj hdd
    obtain ⟨v99, m99, e99, s99⟩ := hd ⟨16, .guard⟩ (by simp) rfl _ _ rfl rfl
    obtain rfl : v99 = .bool true := s99
    obtain ⟨v1, m1, e1, s1⟩ := hd ⟨21, .data⟩ (by simp) rfl _ _ rfl rfl
    obtain ⟨v2, m2, e2, s2⟩ := hd ⟨24, .data⟩ (by simp) rfl _ _ rfl rfl
    obtain rfl : v1 = .string T := s1
    obtain rfl : v2 = .string T := s2
    refine ⟨wanted_some rfl rfl rfl m99, fun K hK => ?_⟩
    refine wp_val (ex_eql rfl e1 e2) (hK _ _ hG (fun _ _ h => h) ?_)
    exact rfl
  · intro d a W hdd hf hG hd
    obtain rfl : 55 = d := Option.some.inj hdd
    obtain ⟨v1, m1, e1, s1⟩ := hd ⟨16, .data⟩ (by simp) rfl _ _ rfl rfl
    obtain ⟨v2, m2, e2, s2⟩ := hd ⟨25, .data⟩ (by simp) rfl _ _ rfl rfl
    obtain rfl : v1 = .bool true := s1
    obtain rfl : v2 = .bool true := s2
    refine ⟨wanted_none rfl, fun K hK => ?_⟩
    refine wp_val (ex_pick rfl e1) (hK _ _ hG (fun _ _ h => h) ?_)
    exact e2
  · intro d a W hdd hf hG hd
    obtain rfl : 56 = d := Option.some.inj hdd
    obtain ⟨v1, m1, e1, s1⟩ := hd ⟨26, .data⟩ (by simp) rfl _ _ rfl rfl
    obtain rfl : v1 = .bool true := s1
    refine ⟨wanted_none rfl, fun K hK => ?_⟩
    refine wp_val (ex_move rfl) (hK _ _ hG (fun _ _ h => h) ?_)
    exact e1
  · intro d a W hdd hf hG hd
    obtain rfl : 57 = d := Option.some.inj hdd
    obtain ⟨v99, m99, e99, s99⟩ := hd ⟨27, .guard⟩ (by simp) rfl _ _ rfl rfl
    obtain rfl : v99 = .bool true := s99
    refine ⟨wanted_some rfl rfl rfl m99, fun K hK => ?_⟩
    refine wp_val (ex_build rfl (hbs1 a W)) (hK _ _ (by (repeat (first | exact Below.refl _ _ | assumption | refine Below.drew ?_ | refine Below.alloc ?_ (by first | exact Below.size (by assumption) | (simp; try omega)) _))) (fun _ _ h => kS_stp (Stp.below (by (repeat (first | exact Below.refl _ _ | assumption | refine Below.drew ?_ | refine Below.alloc ?_ (by first | exact Below.size (by assumption) | (simp; try omega)) _)))) h) ?_)
    exact ⟨_, _, rfl, heap_new _ _, hG.size⟩
  · intro d a W hdd hf hG hd
    obtain rfl : 58 = d := Option.some.inj hdd
    obtain ⟨v99, m99, e99, s99⟩ := hd ⟨27, .guard⟩ (by simp) rfl _ _ rfl rfl
    obtain rfl : v99 = .bool true := s99
    obtain ⟨v1, m1, e1, s1⟩ := hd ⟨28, .data⟩ (by simp) rfl _ _ rfl rfl
    obtain ⟨g, fr, rfl, hg, hB⟩ : CstV w.heap.size C1 v1 W := s1
    obtain ⟨k, hk⟩ := run_convert_frozen (P := Tryd.prog) W 24 5 g _ fr C1.size C1.size hg Tryd.underlying24 Tryd.underlying5
    refine ⟨wanted_some rfl rfl rfl m99, fun K hK => ?_⟩
    refine wp_val (ex_convert rfl (by rw [e1]; exact hk)) (hK _ _ (freeze_below hG hB) (fun _ _ h => kS_stp (freeze_stp W g k) h) ?_)
    exact ⟨g, 0, _, rfl, (row_cells hg).stp (freeze_stp W g k)⟩
  · intro d a W hdd hf hG hd
    obtain rfl : 59 = d := Option.some.inj hdd
    obtain ⟨v99, m99, e99, s99⟩ := hd ⟨27, .guard⟩ (by simp) rfl _ _ rfl rfl
    obtain rfl : v99 = .bool true := s99
    obtain ⟨v1, m1, e1, s1⟩ := hd ⟨29, .data⟩ (by simp) rfl _ _ rfl rfl
    obtain ⟨g1, o1, c1, rfl, r1⟩ : RowV C1 v1 W := s1
    refine ⟨wanted_some rfl rfl rfl m99, fun K hK => ?_⟩
    refine wp_call (ex_call rfl (enters_of Tryd.func19 (by kernel_rfl) rfl)) ?_
    rw [show (#[Operand.tmp 58, .const (.string ⟨#[98]⟩)].map a.eval : Array Value) = #[a.eval (.tmp 58), .string C2] from (by kernel_rfl), e1]
    refine (I4.out W g1 o1 c1 hG r1).mono ?_
    rintro e w9 ⟨p, cap, rfl, z1, z2, z3, z4, z5⟩
    exact ⟨_, rfl, hK _ _ (chainB hG z5) (fun _ _ h => kS_stp (Stp.below z5) h) ⟨p, cap, rfl, z3, z4⟩⟩
  · intro d a W hdd hf hG hd
    obtain rfl : 60 = d := Option.some.inj hdd
    obtain ⟨v99, m99, e99, s99⟩ := hd ⟨27, .guard⟩ (by simp) rfl _ _ rfl rfl
    obtain rfl : v99 = .bool true := s99
    obtain ⟨v1, m1, e1, s1⟩ := hd ⟨30, .data⟩ (by simp) rfl _ _ rfl rfl
    obtain ⟨p, cap, rfl, hra⟩ : RetV CA v1 W := s1
    refine ⟨wanted_some rfl rfl rfl m99, fun K hK => ?_⟩
    refine wp_val (ex_convert rfl (by rw [e1]; exact hbackRet W p cap CA hra)) (hK _ _ hG (fun _ _ h => h) ?_)
    exact rfl
  · intro d a W hdd hf hG hd
    obtain rfl : 61 = d := Option.some.inj hdd
    obtain ⟨v99, m99, e99, s99⟩ := hd ⟨27, .guard⟩ (by simp) rfl _ _ rfl rfl
    obtain rfl : v99 = .bool true := s99
    obtain ⟨v1, m1, e1, s1⟩ := hd ⟨31, .data⟩ (by simp) rfl _ _ rfl rfl
    obtain rfl : v1 = .string CA := s1
    refine ⟨wanted_some rfl rfl rfl m99, fun K hK => ?_⟩
    refine wp_val (ex_eql rfl e1 rfl) (hK _ _ hG (fun _ _ h => h) ?_)
    exact rfl
  · intro d a W hdd hf hG hd
    obtain rfl : 62 = d := Option.some.inj hdd
    obtain ⟨v1, m1, e1, s1⟩ := hd ⟨27, .data⟩ (by simp) rfl _ _ rfl rfl
    obtain ⟨v2, m2, e2, s2⟩ := hd ⟨32, .data⟩ (by simp) rfl _ _ rfl rfl
    obtain rfl : v1 = .bool true := s1
    obtain rfl : v2 = .bool true := s2
    refine ⟨wanted_none rfl, fun K hK => ?_⟩
    refine wp_val (ex_pick rfl e1) (hK _ _ hG (fun _ _ h => h) ?_)
    exact e2
  · intro d a W hdd hf hG hd
    obtain rfl : 4 = d := Option.some.inj hdd
    obtain ⟨v1, m1, e1, s1⟩ := hd ⟨33, .data⟩ (by simp) rfl _ _ rfl rfl
    obtain rfl : v1 = .bool true := s1
    refine ⟨wanted_none rfl, fun K hK => ?_⟩
    refine wp_val (ex_assign rfl) (hK _ _ hG (fun _ _ h => h) ?_)
    exact e1
  · intro a W h1 h2 h3 h4
    obtain ⟨v, hv, hs⟩ := h4 4 (by simp)
    obtain rfl : v = .bool true := hs
    go_wp2_with fail
    refine bodyPost_ret (results_tmp rfl _ _ _) h1 ?_
    exact ⟨by rw [Array.getD_eq_getD_getElem?, hv]; rfl, h3⟩
end Go.Proofs.YthnbifkcbeldmaaDoor
