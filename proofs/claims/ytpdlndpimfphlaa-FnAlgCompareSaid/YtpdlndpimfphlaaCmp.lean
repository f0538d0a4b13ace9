/- Comparing: the reference's SeCompare, bytealg's runtime_cmpstring and Compare return the plain 'cmpL' of the bytes. -/
import Derived.Test.YtpdlndpimfphlaaBytes
import Derived.RegionTactic
import Derived.Deep.QuietTactic
import Derived.BigQuiet
import Derived.Deep.LoopGhost
import Derived.Deep.Draws
import Derived.Outline
namespace Go.Proofs.Ytpdlndpimfphlaa
open Go.RowKit Go.Lib
set_option linter.unusedVariables false

def cmpL : List UInt8 → List UInt8 → Int
  | [], [] => 0
  | [], _ :: _ => -1
  | _ :: _, [] => 1
  | x :: xs, y :: ys => if x.toNat < y.toNat then -1 else if y.toNat < x.toNat then 1 else cmpL xs ys

theorem drop_at (s : ByteArray) (k : Nat) (h : k < s.size) : s.data.toList.drop k = s[k] :: s.data.toList.drop (k + 1) := by
  rw [List.drop_eq_getElem_cons (by simpa using h), byte_at' s k h]

def cmpB (a b : ByteArray) : Int := cmpL a.data.toList b.data.toList
/-- both texts agree up to k -/
def CmpAt (a b : ByteArray) (k : Nat) : Prop := cmpB a b = cmpL (a.data.toList.drop k) (b.data.toList.drop k)
theorem CmpAt.zero (a b : ByteArray) : CmpAt a b 0 := rfl
theorem CmpAt.lt {a b : ByteArray} {k : Nat} (h : CmpAt a b k) (ha : k < a.size) (hb : k < b.size) (hl : (a[k].toNat : Int) < b[k].toNat) : cmpB a b = -1 := by
  rw [h, drop_at a k ha, drop_at b k hb, cmpL, if_pos (by omega)]
theorem CmpAt.gt {a b : ByteArray} {k : Nat} (h : CmpAt a b k) (ha : k < a.size) (hb : k < b.size) (hl : (b[k].toNat : Int) < a[k].toNat) : cmpB a b = 1 := by
  rw [h, drop_at a k ha, drop_at b k hb, cmpL, if_neg (by omega), if_pos (by omega)]
theorem CmpAt.eq {a b : ByteArray} {k : Nat} (h : CmpAt a b k) (ha : k < a.size) (hb : k < b.size) (h1 : ¬ (a[k].toNat : Int) < b[k].toNat) (h2 : ¬ (b[k].toNat : Int) < a[k].toNat) : CmpAt a b (k + 1) := by
  unfold CmpAt
  rw [h, drop_at a k ha, drop_at b k hb, cmpL, if_neg (by omega), if_neg (by omega)]
theorem CmpAt.shorter {a b : ByteArray} {k : Nat} (h : CmpAt a b k) (ha : a.size ≤ k) (hb : k < b.size) : cmpB a b = -1 := by
  rw [h, List.drop_of_length_le (by simpa using ha), drop_at b k hb, cmpL]
theorem CmpAt.longer {a b : ByteArray} {k : Nat} (h : CmpAt a b k) (hb : b.size ≤ k) (ha : k < a.size) : cmpB a b = 1 := by
  rw [h, List.drop_of_length_le (l := b.data.toList) (by simpa using hb), drop_at a k ha, cmpL]
theorem CmpAt.same {a b : ByteArray} {k : Nat} (h : CmpAt a b k) (hb : b.size ≤ k) (ha : a.size ≤ k) : cmpB a b = 0 := by
  rw [h, List.drop_of_length_le (by simpa using ha), List.drop_of_length_le (by simpa using hb), cmpL]

theorem drewN2 (w : World) (n m : Nat) : ∃ k, (w.drewN n).drewN m = w.drewN k := ⟨n + m, by simp⟩
theorem drewN3 (w : World) (n m q : Nat) : ∃ k, ((w.drewN n).drewN m).drewN q = w.drewN k := ⟨n + m + q, by simp⟩

set_option maxHeartbeats 1600000 in
theorem seCompare (a b : ByteArray) (ha : a.size < 4611686018427387904) (hb : b.size < 4611686018427387904) (w : World) :
    Calls Try.prog 20 #[.string a, .string b] w fun e w' => e = .returned (.int .i64 (cmpB a b)) ∧ ∃ n, w' = w.drewN n := by
  go_enter Try.func20, Try.ntmps20
  go_wp2
  go_loopw [5] (fun vi wr => ∃ k n : Nat, wr = w.drewN n ∧ k ≤ a.size ∧ k ≤ b.size ∧ vi = .int .i64 k ∧ CmpAt a b k) (fun vi _ => a.size - (RowKit.intOf vi).toNat)
  case atStart => exact ⟨0, 0, rfl, Nat.zero_le _, Nat.zero_le _, rfl, CmpAt.zero _ _⟩
  case round =>
    obtain ⟨k, n, rfl, hk1, hk2, rfl, hc⟩ := hrel
    by_cases h1 : k < a.size
    · by_cases h2 : k < b.size
      · have i1 : (k : Int) < a.size := by omega
        have i2 : (k : Int) < b.size := by omega
        by_cases hl : (a[k].toNat : Int) < b[k].toNat
        · have hf := Lib.hid (hc.lt h1 h2 hl)
          have hl' : decide ((a[k].toNat : Int) < b[k].toNat) = true := by simpa using hl
          go_wp2
          go_quiet (fail)
          go_wp2
          go_ret
          rw [hf.out]
          exact ⟨rfl, by first | exact ⟨_, rfl⟩ | exact drewN2 _ _ _⟩
        · have hl' : decide ((a[k].toNat : Int) < b[k].toNat) = false := by simpa using hl
          by_cases hg : (b[k].toNat : Int) < a[k].toNat
          · have hf := Lib.hid (hc.gt h1 h2 hg)
            have hg' : decide ((b[k].toNat : Int) < a[k].toNat) = true := by simpa using hg
            go_wp2
            go_quiet (fail)
            go_wp2
            go_quiet (fail)
            go_wp2
            go_ret
            rw [hf.out]
            exact ⟨rfl, by first | exact ⟨_, rfl⟩ | exact drewN2 _ _ _ | exact drewN3 _ _ _ _⟩
          · have hf := Lib.hid (hc.eq h1 h2 hl hg)
            have hg' : decide ((b[k].toNat : Int) < a[k].toNat) = false := by simpa using hg
            go_wp2
            go_quiet (fail)
            go_wp2
            go_quiet (fail)
            go_wp2
            go_roundw
            case rel => exact ⟨k + 1, _, rfl, by omega, by omega, by go_num, hf⟩
            case measure => simp [RowKit.intOf]; omega
      · have i2 : decide ((k : Int) < b.size) = false := by simp; omega
        have hkb : k = b.size := by omega
        by_cases he : a.size < b.size
        · omega
        by_cases hg : b.size < a.size
        · have hf := Lib.hid (hc.longer (by omega) h1)
          clear hkb
          go_wp2
          all_goals (go_ret; rw [hf.out]; exact ⟨rfl, n, rfl⟩)
        · omega
    · have i1 : decide ((k : Int) < a.size) = false := by simp; omega
      by_cases he : a.size < b.size
      · have hf := Lib.hid (hc.shorter (by omega) (by omega))
        go_wp2
        all_goals (go_ret; rw [hf.out]; exact ⟨rfl, n, rfl⟩)
      · have hf := Lib.hid (hc.same (by omega) (by omega))
        have hg : ¬ b.size < a.size := by omega
        go_wp2
        all_goals (go_ret; rw [hf.out]; exact ⟨rfl, n, rfl⟩)

set_option maxHeartbeats 1600000 in
theorem cmpString (a b : ByteArray) (ha : a.size < 4611686018427387904) (hb : b.size < 4611686018427387904) (w : World) :
    Calls Try.prog 63 #[.string a, .string b] w fun e w' => e = .returned (.int .i64 (cmpB a b)) ∧ ∃ n, w' = w.drewN n := by
  obtain ⟨l, hl⟩ : ∃ l : Nat, (b.size < a.size ∧ l = b.size) ∨ (¬ b.size < a.size ∧ l = a.size) := by
    by_cases h : b.size < a.size
    · exact ⟨_, .inl ⟨h, rfl⟩⟩
    · exact ⟨_, .inr ⟨h, rfl⟩⟩
  rcases hl with ⟨h, hl⟩ | ⟨h, hl⟩
  all_goals
    have Hl := Lib.hid hl
    have l1 : l ≤ a.size := by omega
    have l2 : l ≤ b.size := by omega
    subst hl
    go_enter Try.func63, Try.ntmps63
    go_wp2
    go_loopw [6, 7, 8] (fun vi _ _ wr => ∃ k n : Nat, wr = w.drewN n ∧ k ≤ a.size ∧ k ≤ b.size ∧ vi = .int .i64 k ∧ CmpAt a b k) (fun vi _ _ _ => a.size - (RowKit.intOf vi).toNat)
    case atStart => exact ⟨0, 0, rfl, Nat.zero_le _, Nat.zero_le _, rfl, CmpAt.zero _ _⟩
    case round =>
      obtain ⟨k, n, rfl, hk1, hk2, rfl, hc⟩ := hrel
      by_cases h1 : k < a.size ∧ k < b.size
      · obtain ⟨h1, h2⟩ := h1
        have i1 : (k : Int) < a.size := by omega
        have i2 : (k : Int) < b.size := by omega
        by_cases hl : (a[k].toNat : Int) < b[k].toNat
        · have hf := Lib.hid (hc.lt h1 h2 hl)
          go_wp2
          go_quiet (fail)
          go_wp2
          go_ret
          rw [hf.out]
          exact ⟨rfl, by first | exact ⟨_, rfl⟩ | exact drewN2 _ _ _⟩
        · by_cases hg : (b[k].toNat : Int) < a[k].toNat
          · have hf := Lib.hid (hc.gt h1 h2 hg)
            go_wp2
            go_quiet (fail)
            go_wp2
            go_ret
            rw [hf.out]
            exact ⟨rfl, by first | exact ⟨_, rfl⟩ | exact drewN2 _ _ _⟩
          · have hf := Lib.hid (hc.eq h1 h2 hl hg)
            go_wp2
            go_quiet (fail)
            go_wp2
            go_roundw
            case rel => exact ⟨k + 1, _, rfl, by omega, by omega, by go_num, hf⟩
            case measure => simp [RowKit.intOf]; omega
      · by_cases he : a.size < b.size
        · have hf := Lib.hid (hc.shorter (by omega) (by omega))
          go_wp2
          all_goals (go_ret; rw [hf.out]; exact ⟨rfl, n, rfl⟩)
        · by_cases hg : b.size < a.size
          · have hf := Lib.hid (hc.longer (by omega) (by omega))
            go_wp2
            all_goals (go_ret; rw [hf.out]; exact ⟨rfl, n, rfl⟩)
          · have hf := Lib.hid (hc.same (by omega) (by omega))
            go_wp2
            all_goals (go_ret; rw [hf.out]; exact ⟨rfl, n, rfl⟩)
end Go.Proofs.Ytpdlndpimfphlaa
