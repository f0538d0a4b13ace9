/- The law FnBytSplitAll. -/
import Derived.Test.YthnbifkcbeldmaaDoorBSeqI
import Derived.Test.YthnbifkcbeldmaaDoorLawSplit
namespace Go.Proofs.YthnbifkcbeldmaaDoor
open Go.RowKit Go.Lib
set_option linter.unusedVariables false
theorem conv2b {w v : World} (h : Below w.heap.size w v) (o1 o2 : Obj) : Below w.heap.size w ((v.alloc o1).alloc o2).drew.drew := ((h.alloc h.size o1).alloc (by have := h.size; simp; omega) o2).drew.drew
theorem const2b {w v : World} (h : Below w.heap.size w v) (o1 o2 : Obj) : Below w.heap.size w ((v.alloc o1).alloc o2) := (h.alloc h.size o1).alloc (by have := h.size; simp; omega) o2
set_option maxHeartbeats 3200000 in
set_option maxRecDepth 100000 in
theorem walk_FnBytSplitAll (a0 a1 : ByteArray) (w : World) (w0 : a0.size ≤ maxLen) (w1 : a1.size ≤ maxLen) (htab : Lib.Utf8Tabs 2 3 w) :
    Calls Tryd.prog 12 #[.string a0, .string a1] w fun e w' => e = .returned (.bool true) ∧ Below w.heap.size w w' := by
  unfold maxLen at w0 w1
  by_cases h0 : 2147483647 < a0.size
  · clear htab
    go_enter Tryd.func12, Tryd.ntmps12
    go_wp2
    go_ret
    exact ⟨rfl, Below.refl _ _⟩
  by_cases h1 : 2147483647 < a1.size
  · clear htab
    go_enter Tryd.func12, Tryd.ntmps12
    go_wp2
    go_ret
    exact ⟨rfl, Below.refl _ _⟩
  by_cases he2 : a0.size = 0 ∧ a1.size = 0
  · have e1 : a0.toList.isEmpty = true := by rw [empty_of]; exact decide_eq_true he2.1
    have e2 : a1.toList.isEmpty = true := by rw [empty_of]; exact decide_eq_true he2.2
    clear htab he2
    go_enter Tryd.func12, Tryd.ntmps12
    go_wp2_with fail
    go_ret
    exact ⟨rfl, Below.refl _ _⟩
  have hee : a0.toList.isEmpty = false ∨ (a0.toList.isEmpty = true ∧ a1.toList.isEmpty = false) := by
    rw [empty_of, empty_of]
    by_cases h : a0.size = 0
    · exact .inr ⟨decide_eq_true h, decide_eq_false (fun h' => he2 ⟨h, h'⟩)⟩
    · exact .inl (decide_eq_false h)
  have HT := Lib.hid htab
  have I0 : Hid (∀ (W : World) (g1 o1 c1 g2 o2 c2 : Nat), Below w.heap.size w W → Row W g1 o1 a0 → Row W g2 o2 a1 → Calls Tryd.prog 34 #[.slice (some ⟨g1, o1, none⟩) a0.size c1, .slice (some ⟨g2, o2, none⟩) a1.size c2] W (RetStrs W (pieces a0 a1 (-1) false))) := Lib.hid (fun W g1 o1 c1 g2 o2 c2 hB r1 r2 => implBytSplit g1 o1 c1 g2 o2 c2 a0 a1 W r1 r2 (by omega) (by omega) (Utf8Tabs_below HT.out hB))
  have I1 : Hid (∀ (W : World) (g1 o1 c1 g2 o2 c2 : Nat), Below w.heap.size w W → Row W g1 o1 a0 → Row W g2 o2 a1 → Calls Tryd.prog 36 #[.slice (some ⟨g1, o1, none⟩) a0.size c1, .slice (some ⟨g2, o2, none⟩) a1.size c2] W (RetStrs W (pieces a0 a1 (-1) true))) := Lib.hid (fun W g1 o1 c1 g2 o2 c2 hB r1 r2 => implBytSplitAfter g1 o1 c1 g2 o2 c2 a0 a1 W r1 r2 (by omega) (by omega) (Utf8Tabs_below HT.out hB))
  have IS : Hid (∀ (W : World) (g1 o1 c1 g2 o2 c2 : Nat), Below w.heap.size w W → Row W g1 o1 a0 → Row W g2 o2 a1 → Calls Tryd.prog 37 #[.slice (some ⟨g1, o1, none⟩) a0.size c1, .slice (some ⟨g2, o2, none⟩) a1.size c2] W (RetStrs W (pieces a0 a1 (-1) false))) := Lib.hid (fun W g1 o1 c1 g2 o2 c2 hB r1 r2 => implBytSplitSeq g1 o1 c1 g2 o2 c2 a0 a1 W r1 r2 (by omega) (by omega) (Utf8Tabs_below HT.out hB))
  have IC : Hid (∀ (W : World) (g1 o1 c1 g2 o2 c2 : Nat), Below w.heap.size w W → Row W g1 o1 ⟨#[97, 98]⟩ → Row W g2 o2 ⟨#[98]⟩ → Calls Tryd.prog 34 #[.slice (some ⟨g1, o1, none⟩) 2 c1, .slice (some ⟨g2, o2, none⟩) 1 c2] W (RetStrs W (pieces ⟨#[97, 98]⟩ ⟨#[98]⟩ (-1) false))) := Lib.hid (fun W g1 o1 c1 g2 o2 c2 hB r1 r2 => implBytSplit g1 o1 c1 g2 o2 c2 ⟨#[97, 98]⟩ ⟨#[98]⟩ W r1 r2 (by decide) (by decide) (Utf8Tabs_below HT.out hB))
  have S0 : Hid (∀ W : World, Calls Tryd.prog 35 #[.string a0, .string a1, .int .i64 (-1), .bool false] W (RetStrs W (pieces a0 a1 (-1) false))) := Lib.hid (fun W => sePieces a0 a1 (-1) false (by omega) (by omega) (by decide) (by decide) W)
  have S1 : Hid (∀ W : World, Calls Tryd.prog 35 #[.string a0, .string a1, .int .i64 (-1), .bool true] W (RetStrs W (pieces a0 a1 (-1) true))) := Lib.hid (fun W => sePieces a0 a1 (-1) true (by omega) (by omega) (by decide) (by decide) W)
  have hl0 : (pieces a0 a1 (-1) false).length ≤ 4294967296 := by have := pieces_len a0 a1 (-1) false; omega
  have hl1 : (pieces a0 a1 (-1) true).length ≤ 4294967296 := by have := pieces_len a0 a1 (-1) true; omega
  have HA := Lib.hid (ab_pieces (-1) false (.inl rfl))
  have hcv := hconv
  have ka := kc1
  have kb := kc2
  have C0 : Below w.heap.size w w := Below.refl _ _
  clear htab he2
  generalize pieces a0 a1 (-1) false = P0 at *
  generalize pieces a0 a1 (-1) true = P1 at *
  rcases hee with e1 | ⟨e1, e2⟩
  all_goals
    go_enter Tryd.func12, Tryd.ntmps12
    go_wp2_with (first
      | (go_at_call 34; have X := C8; refine Calls.mono (IC.out _ _ _ _ _ _ _ (const2b C8 _ _) ((Row.const _ ⟨#[97, 98]⟩ #[.int .u8 97, .int .u8 98] (by kernel_rfl) _ _).alloc _) (Row.const1 _ ⟨#[98]⟩ #[.int .u8 98] (by kernel_rfl) _ _ _ (by simp))) ?_; rintro e w10 ⟨a10, cp10, rfl, in10, z⟩; have B10 : Below w8.heap.size w8 w10 := below_const2 _ _ _ _ z; have C10 : Below w.heap.size w w10 := C8.trans (B10.mono C8.size); clear z X; rw [HA.out])
      | (go_at_call 24; have X := C8; refine (seSame a7 a8 cp7 cp8 P0 w8 hl0 (in7.below B8) in8).mono ?_; rintro e w99 ⟨rfl, rfl⟩; clear X)
      | (go_at_call 34; have X := C7; refine Calls.mono (I0.out _ _ _ _ _ _ _ (conv2b C7 _ _) (((Row.new _ _ _ _ _).alloc _).drew.drew) ((Row.new1 _ _ _ _ _ _ (by simp)).drew.drew)) ?_; rintro e w8 ⟨a8, cp8, rfl, in8, z⟩; have B8 : Below w7.heap.size w7 w8 := below_conv2 _ _ _ _ z; have C8 : Below w.heap.size w w8 := C7.trans (B8.mono C7.size); clear z X)
      | (go_at_call 37; have X := C5; refine Calls.mono (IS.out _ _ _ _ _ _ _ (conv2b C5 _ _) (((Row.new _ _ _ _ _).alloc _).drew.drew) ((Row.new1 _ _ _ _ _ _ (by simp)).drew.drew)) ?_; rintro e w7 ⟨a7, cp7, rfl, in7, z⟩; have B7 : Below w5.heap.size w5 w7 := below_conv2 _ _ _ _ z; have C7 : Below w.heap.size w w7 := C5.trans (B7.mono C5.size); clear z X)
      | (go_at_call 24; have X := C5; refine (seSame a4 a5 cp4 cp5 P1 w5 hl1 (in4.below B5) in5).mono ?_; rintro e w99 ⟨rfl, rfl⟩; clear X)
      | (go_at_call 35; have X := C4; refine (S1.out w4).mono ?_; rintro e w5 ⟨a5, cp5, rfl, in5, B5⟩; have C5 : Below w.heap.size w w5 := C4.trans (B5.mono C4.size); clear X)
      | (go_at_call 36; have X := C2; refine Calls.mono (I1.out _ _ _ _ _ _ _ (conv2b C2 _ _) (((Row.new _ _ _ _ _).alloc _).drew.drew) ((Row.new1 _ _ _ _ _ _ (by simp)).drew.drew)) ?_; rintro e w4 ⟨a4, cp4, rfl, in4, z⟩; have B4 : Below w2.heap.size w2 w4 := below_conv2 _ _ _ _ z; have C4 : Below w.heap.size w w4 := C2.trans (B4.mono C2.size); clear z X)
      | (go_at_call 24; have X := C2; refine (seSame a1 a2 cp1 cp2 P0 w2 hl0 (in1.below B2) in2).mono ?_; rintro e w99 ⟨rfl, rfl⟩; clear X)
      | (go_at_call 35; have X := C1; refine (S0.out w1).mono ?_; rintro e w2 ⟨a2, cp2, rfl, in2, B2⟩; have C2 : Below w.heap.size w w2 := C1.trans (B2.mono C1.size); clear X)
      | (go_at_call 34; have X := C0; refine Calls.mono (I0.out _ _ _ _ _ _ _ (conv2b C0 _ _) (((Row.new _ _ _ _ _).alloc _).drew.drew) ((Row.new1 _ _ _ _ _ _ (by simp)).drew.drew)) ?_; rintro e w1 ⟨a1, cp1, rfl, in1, z⟩; have B1 : Below w.heap.size w w1 := below_conv2 _ _ _ _ z; have C1 : Below w.heap.size w w1 := C0.trans (B1.mono C0.size); clear z X))
    all_goals (go_ret; exact ⟨rfl, C10⟩)
end Go.Proofs.YthnbifkcbeldmaaDoor
