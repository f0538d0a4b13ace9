/- The longest common suffix of two texts; the law FnCommonSuffix: its walk returns true. -/
import Derived.Test.YtlhlehmmaoadgaaRows
import Derived.Test.YtlhlehmmaoadgaaBM
import Derived.WalkKit
import Derived.WalkSpells
import Derived.WalkLawsBesides
import Derived.WalkSmall
import Derived.Below
import Derived.BigCall
import Derived.BigGuard
import Derived.Lib.Walk
import Derived.Lib.Hide
import Derived.Lib.Strings
import Derived.Lib.IndexBytes
import Derived.Lib.RabinKarpLaws
import Derived.RegionTactic
import Derived.Deep.QuietTactic
import Derived.BigQuiet
import Derived.Deep.Draws
import Derived.IntWalk
import Derived.Outline
namespace Go.Proofs.Ytlhlehmmaoadgaa
open Go.RowKit Go.Lib
set_option linter.unusedVariables false

/-- the byte at a place, 0 beyond the end -/
def gb (s : ByteArray) (k : Nat) : UInt8 := s.data.toList.getD k 0
theorem gb_eq (s : ByteArray) (k : Nat) (h : k < s.size) : gb s k = s[k] := by
  unfold gb
  rw [List.getD_eq_getElem?_getD, data_getElem? s k h]
  rfl
theorem byte_ne (x y : UInt8) : ((x.toNat : Int) != (y.toNat : Int)) = (x != y) := by
  rw [Bool.eq_iff_iff, bne_iff_ne, bne_iff_ne]
  constructor
  · intro h e; exact h (by rw [e])
  · intro h e; exact h (UInt8.toNat_inj.1 (by omega))

/-- n is the length of the longest common suffix -/
def LcsAB (a b : ByteArray) (n : Nat) : Prop := n ≤ a.size ∧ n ≤ b.size ∧ (∀ x, x < n → gb a (a.size - 1 - x) = gb b (b.size - 1 - x)) ∧ (n = a.size ∨ n = b.size ∨ gb a (a.size - 1 - n) ≠ gb b (b.size - 1 - n))
/-- the first n bytes from behind agree -/
def Agree (a b : ByteArray) (n : Nat) : Prop := ∀ x, x < n → gb a (a.size - 1 - x) = gb b (b.size - 1 - x)
theorem Agree.succ {a b : ByteArray} {n : Nat} (h : Agree a b n) (he : gb a (a.size - 1 - n) = gb b (b.size - 1 - n)) : Agree a b (n + 1) := fun x hx => by
  by_cases e : x = n
  · subst e; exact he
  · exact h x (by omega)

def SomeN (P : Nat → Prop) (w : World) (e : Ending) (w' : World) : Prop := ∃ n : Nat, e = .returned (.int .i64 n) ∧ P n ∧ ∃ k, w' = w.drewN k

theorem idx (s : ByteArray) (i : Int) (k : Nat) (hk : k < s.size) (he : i = k) (w : World) : (Instr.index 9 (.string s) (.int .i64 i)).run Try.prog w = .ok (.int .u8 (s[k].toNat : Int)) w := by
  subst he
  rw [run_index_string w 9 s .i64 _ Try.underlying9]
  simp [hk]

set_option maxHeartbeats 1600000 in
theorem lcs_any (a b : ByteArray) (ha : a.size < 4611686018427387904) (hb : b.size < 4611686018427387904) (w : World) :
    Calls Try.prog 23 #[.string a, .string b] w (SomeN (LcsAB a b) w) := by
  go_enter Try.func23, Try.ntmps23
  go_wp2
  go_loopw [4] (fun vi wr => ∃ k n : Nat, wr = w.drewN n ∧ k ≤ a.size ∧ k ≤ b.size ∧ vi = .int .i64 k ∧ Agree a b k) (fun vi _ => a.size - (RowKit.intOf vi).toNat)
  case atStart => exact ⟨0, 0, rfl, Nat.zero_le _, Nat.zero_le _, rfl, fun x h => by omega⟩
  case round =>
    obtain ⟨k, n, rfl, hk1, hk2, rfl, hag⟩ := hrel
    by_cases h1 : k < a.size
    · by_cases h2 : k < b.size
      · have i1 : (k : Int) < a.size := by omega
        have i2 : (k : Int) < b.size := by omega
        have x1 : IntKind.i64.wrap ((a.size : Int) - 1) = (a.size : Int) - 1 := IntWalk.i64_in _ (by omega)
        have x2 : IntKind.i64.wrap ((a.size : Int) - 1 - k) = (a.size : Int) - 1 - k := IntWalk.i64_in _ (by omega)
        have x3 : ((a.size : Int) - 1 - k).toNat = a.size - 1 - k := by omega
        have x4 : (0 : Int) ≤ (a.size : Int) - 1 - k := by omega
        have x5 : (a.size : Int) - 1 - k < a.size := by omega
        have y1 : IntKind.i64.wrap ((b.size : Int) - 1) = (b.size : Int) - 1 := IntWalk.i64_in _ (by omega)
        have y2 : IntKind.i64.wrap ((b.size : Int) - 1 - k) = (b.size : Int) - 1 - k := IntWalk.i64_in _ (by omega)
        have y3 : ((b.size : Int) - 1 - k).toNat = b.size - 1 - k := by omega
        have y4 : (0 : Int) ≤ (b.size : Int) - 1 - k := by omega
        have y5 : (b.size : Int) - 1 - k < b.size := by omega
        have z1 : a.size - 1 - k < a.size := by omega
        have z2 : b.size - 1 - k < b.size := by omega
        have x6 := idx a ((a.size : Int) - 1 - k) (a.size - 1 - k) z1 (by omega)
        have y6 := idx b ((b.size : Int) - 1 - k) (b.size - 1 - k) z2 (by omega)
        have ea := gb_eq a (a.size - 1 - k) z1
        have eb := gb_eq b (b.size - 1 - k) z2
        have hne := byte_ne a[a.size - 1 - k] b[b.size - 1 - k]
        by_cases hq : a[a.size - 1 - k] = b[b.size - 1 - k]
        · have Hn := Lib.hid (hag.succ (by rw [ea, eb, hq]))
          have hq' : ((a[a.size - 1 - k].toNat : Int) != (b[b.size - 1 - k].toNat : Int)) = false := by rw [hne, hq]; simp
          clear hne ea eb hq
          go_wp2
          go_quiet (fail)
          go_wp2
          go_roundw
          case rel => exact ⟨k + 1, _, rfl, by omega, by omega, by go_num, Hn⟩
          case measure => simp [RowKit.intOf]; omega
        · have Hf : Hid (LcsAB a b k) := ⟨hk1, hk2, hag, .inr (.inr (by rw [ea, eb]; exact hq))⟩
          have hq' : ((a[a.size - 1 - k].toNat : Int) != (b[b.size - 1 - k].toNat : Int)) = true := by rw [hne]; simpa using hq
          clear hne ea eb hq
          go_wp2
          go_quiet (fail)
          go_wp2
          go_ret
          exact ⟨k, rfl, Hf, by first | exact ⟨_, rfl⟩ | exact ⟨_, World.drewN_drewN _ _ _⟩⟩
      · have i2 : decide ((k : Int) < b.size) = false := by simp; omega
        have Hf : Hid (LcsAB a b k) := ⟨hk1, hk2, hag, .inr (.inl (by omega))⟩
        go_wp2
        go_ret
        exact ⟨k, rfl, Hf, n, rfl⟩
    · have i1 : decide ((k : Int) < a.size) = false := by simp; omega
      have Hf : Hid (LcsAB a b k) := ⟨hk1, hk2, hag, .inl (by omega)⟩
      go_wp2
      go_ret
      exact ⟨k, rfl, Hf, n, rfl⟩


/-- 's[i:]' -/
theorem cutFrom (s : ByteArray) (i : Int) (k : Nat) (hk : k ≤ s.size) (he : i = k) (w : World) : (Instr.slice 9 (.string s) (some (.int .i64 i)) none none).run Try.prog w = .ok (.string (s.extract k s.size)) w := by
  subst he
  simp [go_sem, Try.underlying9, hk]

theorem suffix_eq (a b : ByteArray) (n : Nat) (h : LcsAB a b n) : a.extract (a.size - n) a.size = b.extract (b.size - n) b.size := by
  obtain ⟨h1, h2, h3, _⟩ := h
  have e : ∀ s : ByteArray, n ≤ s.size → (s.extract (s.size - n) s.size).size = n := fun s hs => by simp; omega
  apply ByteArray.ext
  apply Array.ext
  · have := e a h1; have := e b h2
    simp at *
    omega
  · intro i p q
    have hi : i < n := by
      have := e a h1
      simp at p this
      omega
    have := h3 (n - 1 - i) (by omega)
    rw [gb_eq a _ (by omega), gb_eq b _ (by omega)] at this
    have ga : (a.extract (a.size - n) a.size)[i]'(by rw [e a h1]; exact hi) = a[a.size - n + i]'(by omega) := by simp [ByteArray.getElem_extract]
    have gb' : (b.extract (b.size - n) b.size)[i]'(by rw [e b h2]; exact hi) = b[b.size - n + i]'(by omega) := by simp [ByteArray.getElem_extract]
    show (a.extract (a.size - n) a.size)[i]'(by rw [e a h1]; exact hi) = (b.extract (b.size - n) b.size)[i]'(by rw [e b h2]; exact hi)
    rw [ga, gb']
    have e1 : a.size - 1 - (n - 1 - i) = a.size - n + i := by omega
    have e2 : b.size - 1 - (n - 1 - i) = b.size - n + i := by omega
    simp only [e1, e2] at this
    exact this

end Go.Proofs.Ytlhlehmmaoadgaa
