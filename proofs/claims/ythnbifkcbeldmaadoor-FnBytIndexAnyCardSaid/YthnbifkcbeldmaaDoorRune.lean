/- The reference's SeRune: the code point that the model itself decodes. -/
import Derived.Test.YthnbifkcbeldmaaDoorRows
import Derived.WalkKit
import Derived.WalkSpells
import Derived.WalkLawsBesides
import Derived.WalkSmall
import Derived.Lib.Walk
import Derived.Lib.Hide
import Derived.Lib.Strings
import Derived.Test.YthnbifkcbeldmaaDoorDec
import Derived.Laws.BitsLemmas
import Derived.Handy
import Derived.BigCall
import Derived.BigGuard
import Derived.Outline
namespace Go.Proofs.YthnbifkcbeldmaaDoor
open Go.RowKit Go.Lib
set_option linter.unusedVariables false

theorem get_eq (s : ByteArray) (i : Nat) (h : i < s.size) : s.get! i = s[i] := by
  simp [ByteArray.get!, h]
  rfl

set_option maxHeartbeats 1600000 in
theorem seRune_ascii (s : ByteArray) (i : Nat) (hi : i < s.size) (hs : s.size < 4611686018427387904) (hb : s[i].toNat < 128) (w : World) :
    Calls Tryd.prog 43 #[.string s, .int .i64 i] w fun e w' => e = .returned (.tuple #[.int .i32 (Utf8.decode s i).1, .int .i64 (Utf8.decode s i).2]) ∧ w = w' := by
  have e : Utf8.decode s i = (s[i].toNat, 1) := by
    unfold Utf8.decode
    simp [get_eq s i hi, hb]
  have i1 : (i : Int) < s.size := by omega
  have i2 : (s[i].toNat : Int) < 128 := by omega
  rw [e]
  clear e
  go_enter Tryd.func43, Tryd.ntmps43
  go_wp2
  go_ret2
  exact ⟨rfl, rfl⟩
/-- the bytes behind, 0 beyond the end -/
def bb (s : ByteArray) (i : Nat) : Nat := (s.get! i).toNat
theorem bb_eq (s : ByteArray) (i : Nat) (h : i < s.size) : bb s i = s[i].toNat := by unfold bb; rw [get_eq s i h]
theorem dec_eq (s : ByteArray) (i : Nat) : Utf8.decode s i = decodeN (s.size - i) (bb s i) (bb s (i + 1)) (bb s (i + 2)) (bb s (i + 3)) := decode_at s i
theorem ret2 {a b : Int} {c d : Int} (h1 : a = c) (h2 : b = d) : Ending.returned (.tuple #[.int .i32 a, .int .i64 b]) = .returned (.tuple #[.int .i32 c, .int .i64 d]) := by rw [h1, h2]

set_option maxHeartbeats 3200000 in
set_option maxRecDepth 100000 in
theorem seRune_two (s : ByteArray) (i : Nat) (hi : i < s.size) (hs : s.size < 4611686018427387904) (hb : 192 ≤ s[i].toNat) (hb2 : s[i].toNat < 224) (w : World) :
    Calls Tryd.prog 43 #[.string s, .int .i64 i] w fun e w' => e = .returned (.tuple #[.int .i32 (Utf8.decode s i).1, .int .i64 (Utf8.decode s i).2]) ∧ w = w' := by
  have D := Lib.hid (dec_eq s i)
  have b0 := bb_eq s i hi
  have i1 : (i : Int) < s.size := by omega
  have j1 : (192 : Int) ≤ (s[i].toNat : Int) := by omega
  have j2 : (s[i].toNat : Int) < 224 := by omega
  by_cases hr : i + 2 ≤ s.size
  · have z1 : i + 1 < s.size := by omega
    have e1 := bb_eq s (i + 1) z1
    have k1 : (i : Int) + 1 < s.size := by omega
    by_cases c1 : s[i + 1].toNat < 128
    · have F := Lib.hid (D.out.trans (dn2_bad _ _ _ _ _ (by omega) (by omega) (.inr (.inl (by omega)))))
      have d1 : (s[i + 1].toNat : Int) < 128 := by omega
      clear e1 b0
      go_enter Tryd.func43, Tryd.ntmps43
      go_wp2
      go_rounds 2
      all_goals (go_ret2; rw [F.out]; exact ⟨rfl, rfl⟩)
    by_cases c2 : 192 ≤ s[i + 1].toNat
    · have F := Lib.hid (D.out.trans (dn2_bad _ _ _ _ _ (by omega) (by omega) (.inr (.inr (by omega)))))
      have d1 : (192 : Int) ≤ (s[i + 1].toNat : Int) := by omega
      clear e1 b0
      go_enter Tryd.func43, Tryd.ntmps43
      go_wp2
      go_rounds 2
      all_goals (go_ret2; rw [F.out]; exact ⟨rfl, rfl⟩)
    have d1 : (128 : Int) ≤ (s[i + 1].toNat : Int) := by omega
    have d2 : (s[i + 1].toNat : Int) < 192 := by omega
    by_cases hc : 128 ≤ (s[i].toNat - 192) * 64 + (s[i + 1].toNat - 128)
    · have F := Lib.hid (D.out.trans (dn2_ok _ _ _ _ _ (by omega) (by omega) (by omega) (by omega) (by omega) (by omega)))
      rw [b0, e1] at F
      clear e1 b0
      go_enter Tryd.func43, Tryd.ntmps43
      go_wp2
      go_rounds 2
      all_goals (go_ret2; rw [F.out]; exact ⟨ret2 (by omega) (by omega), rfl⟩)
    · have F := Lib.hid (D.out.trans (dn2_low _ _ _ _ _ (by omega) (by omega) (by omega) (by omega) (by omega)))
      clear e1 b0
      go_enter Tryd.func43, Tryd.ntmps43
      go_wp2
      go_rounds 2
      all_goals (go_ret2; rw [F.out]; exact ⟨rfl, rfl⟩)
  · have F := Lib.hid (D.out.trans (dn2_bad _ _ _ _ _ (by omega) (by omega) (.inl (by omega))))
    clear b0
    go_enter Tryd.func43, Tryd.ntmps43
    go_wp2
    all_goals (go_ret2; rw [F.out]; exact ⟨rfl, rfl⟩)

set_option maxHeartbeats 6400000 in
set_option maxRecDepth 100000 in
theorem seRune_three (s : ByteArray) (i : Nat) (hi : i < s.size) (hs : s.size < 4611686018427387904) (hb : 224 ≤ s[i].toNat) (hb2 : s[i].toNat < 240) (w : World) :
    Calls Tryd.prog 43 #[.string s, .int .i64 i] w fun e w' => e = .returned (.tuple #[.int .i32 (Utf8.decode s i).1, .int .i64 (Utf8.decode s i).2]) ∧ w = w' := by
  have D := Lib.hid (dec_eq s i)
  have b0 := bb_eq s i hi
  have i1 : (i : Int) < s.size := by omega
  have j1 : (224 : Int) ≤ (s[i].toNat : Int) := by omega
  have j2 : (s[i].toNat : Int) < 240 := by omega
  by_cases hr : i + 3 ≤ s.size
  · have z1 : i + 1 < s.size := by omega
    have z2 : i + 2 < s.size := by omega
    have e1 := bb_eq s (i + 1) z1
    have k1 : (i : Int) + 1 < s.size := by omega
    have e2 := bb_eq s (i + 2) z2
    have k2 : (i : Int) + 2 < s.size := by omega
    by_cases c1a : s[i + 1].toNat < 128
    · have F := Lib.hid (D.out.trans (dn3_bad _ _ _ _ _ (by omega) (by omega) (.inr (.inl (by omega)))))
      have d1 : (s[i + 1].toNat : Int) < 128 := by omega
      clear e1 e2 b0
      go_enter Tryd.func43, Tryd.ntmps43
      go_wp2
      go_rounds 3
      all_goals (go_ret2; rw [F.out]; exact ⟨rfl, rfl⟩)
    by_cases c1b : 192 ≤ s[i + 1].toNat
    · have F := Lib.hid (D.out.trans (dn3_bad _ _ _ _ _ (by omega) (by omega) (.inr (.inr (.inl (by omega))))))
      have d1 : (192 : Int) ≤ (s[i + 1].toNat : Int) := by omega
      clear e1 e2 b0
      go_enter Tryd.func43, Tryd.ntmps43
      go_wp2
      go_rounds 3
      all_goals (go_ret2; rw [F.out]; exact ⟨rfl, rfl⟩)
    have d1a : (128 : Int) ≤ (s[i + 1].toNat : Int) := by omega
    have d1b : (s[i + 1].toNat : Int) < 192 := by omega
    by_cases c2a : s[i + 2].toNat < 128
    · have F := Lib.hid (D.out.trans (dn3_bad _ _ _ _ _ (by omega) (by omega) (.inr (.inr (.inr (.inl (by omega)))))))
      have d2 : (s[i + 2].toNat : Int) < 128 := by omega
      clear e1 e2 b0
      go_enter Tryd.func43, Tryd.ntmps43
      go_wp2
      go_rounds 3
      all_goals (go_ret2; rw [F.out]; exact ⟨rfl, rfl⟩)
    by_cases c2b : 192 ≤ s[i + 2].toNat
    · have F := Lib.hid (D.out.trans (dn3_bad _ _ _ _ _ (by omega) (by omega) (.inr (.inr (.inr (.inr (by omega)))))))
      have d2 : (192 : Int) ≤ (s[i + 2].toNat : Int) := by omega
      clear e1 e2 b0
      go_enter Tryd.func43, Tryd.ntmps43
      go_wp2
      go_rounds 3
      all_goals (go_ret2; rw [F.out]; exact ⟨rfl, rfl⟩)
    have d2a : (128 : Int) ≤ (s[i + 2].toNat : Int) := by omega
    have d2b : (s[i + 2].toNat : Int) < 192 := by omega
    by_cases hc : 2048 ≤ ((s[i].toNat - 224) * 64 + (s[i + 1].toNat - 128)) * 64 + (s[i + 2].toNat - 128) ∧ (((s[i].toNat - 224) * 64 + (s[i + 1].toNat - 128)) * 64 + (s[i + 2].toNat - 128) < 55296 ∨ 57344 ≤ ((s[i].toNat - 224) * 64 + (s[i + 1].toNat - 128)) * 64 + (s[i + 2].toNat - 128))
    · have F := Lib.hid (D.out.trans (dn3_ok _ _ _ _ _ (by omega) (by omega) (by omega) (by omega) (by omega) (by omega) (by omega) (by omega) (by omega)))
      rw [b0, e1, e2] at F
      clear e1 e2 b0
      go_enter Tryd.func43, Tryd.ntmps43
      go_wp2
      go_rounds 3
      all_goals (go_ret2; rw [F.out]; exact ⟨ret2 (by omega) (by omega), rfl⟩)
    · have F := Lib.hid (D.out.trans (dn3_no _ _ _ _ _ (by omega) (by omega) (by omega) (by omega) (by omega) (by omega) (by omega)))
      clear e1 e2 b0
      go_enter Tryd.func43, Tryd.ntmps43
      go_wp2
      go_rounds 3
      all_goals (go_ret2; rw [F.out]; exact ⟨rfl, rfl⟩)
  · have F := Lib.hid (D.out.trans (dn3_bad _ _ _ _ _ (by omega) (by omega) (.inl (by omega))))
    clear b0
    go_enter Tryd.func43, Tryd.ntmps43
    go_wp2
    all_goals (go_ret2; rw [F.out]; exact ⟨rfl, rfl⟩)

set_option maxHeartbeats 6400000 in
set_option maxRecDepth 100000 in
theorem seRune_four (s : ByteArray) (i : Nat) (hi : i < s.size) (hs : s.size < 4611686018427387904) (hb : 240 ≤ s[i].toNat) (hb2 : s[i].toNat < 248) (w : World) :
    Calls Tryd.prog 43 #[.string s, .int .i64 i] w fun e w' => e = .returned (.tuple #[.int .i32 (Utf8.decode s i).1, .int .i64 (Utf8.decode s i).2]) ∧ w = w' := by
  have D := Lib.hid (dec_eq s i)
  have b0 := bb_eq s i hi
  have i1 : (i : Int) < s.size := by omega
  have j1 : (240 : Int) ≤ (s[i].toNat : Int) := by omega
  have j2 : (s[i].toNat : Int) < 248 := by omega
  by_cases hr : i + 4 ≤ s.size
  · have z1 : i + 1 < s.size := by omega
    have z2 : i + 2 < s.size := by omega
    have z3 : i + 3 < s.size := by omega
    have e1 := bb_eq s (i + 1) z1
    have k1 : (i : Int) + 1 < s.size := by omega
    have e2 := bb_eq s (i + 2) z2
    have k2 : (i : Int) + 2 < s.size := by omega
    have e3 := bb_eq s (i + 3) z3
    have k3 : (i : Int) + 3 < s.size := by omega
    by_cases c1a : s[i + 1].toNat < 128
    · have F := Lib.hid (D.out.trans (dn4_bad _ _ _ _ _ (by omega) (by omega) (.inr (.inl (by omega)))))
      have d1 : (s[i + 1].toNat : Int) < 128 := by omega
      clear e1 e2 e3 b0
      go_enter Tryd.func43, Tryd.ntmps43
      go_wp2
      go_rounds 4
      all_goals (go_ret2; rw [F.out]; exact ⟨rfl, rfl⟩)
    by_cases c1b : 192 ≤ s[i + 1].toNat
    · have F := Lib.hid (D.out.trans (dn4_bad _ _ _ _ _ (by omega) (by omega) (.inr (.inr (.inl (by omega))))))
      have d1 : (192 : Int) ≤ (s[i + 1].toNat : Int) := by omega
      clear e1 e2 e3 b0
      go_enter Tryd.func43, Tryd.ntmps43
      go_wp2
      go_rounds 4
      all_goals (go_ret2; rw [F.out]; exact ⟨rfl, rfl⟩)
    have d1a : (128 : Int) ≤ (s[i + 1].toNat : Int) := by omega
    have d1b : (s[i + 1].toNat : Int) < 192 := by omega
    by_cases c2a : s[i + 2].toNat < 128
    · have F := Lib.hid (D.out.trans (dn4_bad _ _ _ _ _ (by omega) (by omega) (.inr (.inr (.inr (.inl (by omega)))))))
      have d2 : (s[i + 2].toNat : Int) < 128 := by omega
      clear e1 e2 e3 b0
      go_enter Tryd.func43, Tryd.ntmps43
      go_wp2
      go_rounds 4
      all_goals (go_ret2; rw [F.out]; exact ⟨rfl, rfl⟩)
    by_cases c2b : 192 ≤ s[i + 2].toNat
    · have F := Lib.hid (D.out.trans (dn4_bad _ _ _ _ _ (by omega) (by omega) (.inr (.inr (.inr (.inr (.inl (by omega))))))))
      have d2 : (192 : Int) ≤ (s[i + 2].toNat : Int) := by omega
      clear e1 e2 e3 b0
      go_enter Tryd.func43, Tryd.ntmps43
      go_wp2
      go_rounds 4
      all_goals (go_ret2; rw [F.out]; exact ⟨rfl, rfl⟩)
    have d2a : (128 : Int) ≤ (s[i + 2].toNat : Int) := by omega
    have d2b : (s[i + 2].toNat : Int) < 192 := by omega
    by_cases c3a : s[i + 3].toNat < 128
    · have F := Lib.hid (D.out.trans (dn4_bad _ _ _ _ _ (by omega) (by omega) (.inr (.inr (.inr (.inr (.inr (.inl (by omega)))))))))
      have d3 : (s[i + 3].toNat : Int) < 128 := by omega
      clear e1 e2 e3 b0
      go_enter Tryd.func43, Tryd.ntmps43
      go_wp2
      go_rounds 4
      all_goals (go_ret2; rw [F.out]; exact ⟨rfl, rfl⟩)
    by_cases c3b : 192 ≤ s[i + 3].toNat
    · have F := Lib.hid (D.out.trans (dn4_bad _ _ _ _ _ (by omega) (by omega) (.inr (.inr (.inr (.inr (.inr (.inr (by omega)))))))))
      have d3 : (192 : Int) ≤ (s[i + 3].toNat : Int) := by omega
      clear e1 e2 e3 b0
      go_enter Tryd.func43, Tryd.ntmps43
      go_wp2
      go_rounds 4
      all_goals (go_ret2; rw [F.out]; exact ⟨rfl, rfl⟩)
    have d3a : (128 : Int) ≤ (s[i + 3].toNat : Int) := by omega
    have d3b : (s[i + 3].toNat : Int) < 192 := by omega
    by_cases hc : 65536 ≤ (((s[i].toNat - 240) * 64 + (s[i + 1].toNat - 128)) * 64 + (s[i + 2].toNat - 128)) * 64 + (s[i + 3].toNat - 128) ∧ (((s[i].toNat - 240) * 64 + (s[i + 1].toNat - 128)) * 64 + (s[i + 2].toNat - 128)) * 64 + (s[i + 3].toNat - 128) ≤ 1114111
    · have F := Lib.hid (D.out.trans (dn4_ok _ _ _ _ _ (by omega) (by omega) (by omega) (by omega) (by omega) (by omega) (by omega) (by omega) (by omega) (by omega) (by omega)))
      rw [b0, e1, e2, e3] at F
      clear e1 e2 e3 b0
      go_enter Tryd.func43, Tryd.ntmps43
      go_wp2
      go_rounds 4
      all_goals (go_ret2; rw [F.out]; exact ⟨ret2 (by omega) (by omega), rfl⟩)
    · have F := Lib.hid (D.out.trans (dn4_no _ _ _ _ _ (by omega) (by omega) (by omega) (by omega) (by omega) (by omega) (by omega) (by omega) (by omega)))
      clear e1 e2 e3 b0
      go_enter Tryd.func43, Tryd.ntmps43
      go_wp2
      go_rounds 4
      all_goals (go_ret2; rw [F.out]; exact ⟨rfl, rfl⟩)
  · have F := Lib.hid (D.out.trans (dn4_bad _ _ _ _ _ (by omega) (by omega) (.inl (by omega))))
    clear b0
    go_enter Tryd.func43, Tryd.ntmps43
    go_wp2
    all_goals (go_ret2; rw [F.out]; exact ⟨rfl, rfl⟩)

set_option maxHeartbeats 3200000 in
set_option maxRecDepth 100000 in
theorem seRune_lead (s : ByteArray) (i : Nat) (hi : i < s.size) (hs : s.size < 4611686018427387904) (hb : (128 ≤ s[i].toNat ∧ s[i].toNat < 192) ∨ 248 ≤ s[i].toNat) (w : World) :
    Calls Tryd.prog 43 #[.string s, .int .i64 i] w fun e w' => e = .returned (.tuple #[.int .i32 (Utf8.decode s i).1, .int .i64 (Utf8.decode s i).2]) ∧ w = w' := by
  have D := Lib.hid (dec_eq s i)
  have b0 := bb_eq s i hi
  have i1 : (i : Int) < s.size := by omega
  have hl := s[i].toNat_lt
  have F := Lib.hid (D.out.trans (dn_lead _ _ _ _ _ (by omega) (by omega)))
  clear b0
  rcases hb with ⟨j1, j2⟩ | j1
  · have k1 : (128 : Int) ≤ (s[i].toNat : Int) := by omega
    have k2 : (s[i].toNat : Int) < 192 := by omega
    go_enter Tryd.func43, Tryd.ntmps43
    go_wp2
    all_goals (go_ret2; rw [F.out]; exact ⟨rfl, rfl⟩)
  · have k1 : (248 : Int) ≤ (s[i].toNat : Int) := by omega
    go_enter Tryd.func43, Tryd.ntmps43
    go_wp2
    all_goals (go_ret2; rw [F.out]; exact ⟨rfl, rfl⟩)

/-- the reference's SeRune is the model's own decoding -/
theorem seRune (s : ByteArray) (i : Nat) (hi : i < s.size) (hs : s.size < 4611686018427387904) (w : World) :
    Calls Tryd.prog 43 #[.string s, .int .i64 i] w fun e w' => e = .returned (.tuple #[.int .i32 (Utf8.decode s i).1, .int .i64 (Utf8.decode s i).2]) ∧ w = w' := by
  by_cases h1 : s[i].toNat < 128
  · exact seRune_ascii s i hi hs h1 w
  by_cases h2 : s[i].toNat < 192
  · exact seRune_lead s i hi hs (.inl ⟨by omega, h2⟩) w
  by_cases h3 : s[i].toNat < 224
  · exact seRune_two s i hi hs (by omega) h3 w
  by_cases h4 : s[i].toNat < 240
  · exact seRune_three s i hi hs (by omega) h4 w
  by_cases h5 : s[i].toNat < 248
  · exact seRune_four s i hi hs (by omega) h5 w
  · exact seRune_lead s i hi hs (.inr (by omega)) w
end Go.Proofs.YthnbifkcbeldmaaDoor
