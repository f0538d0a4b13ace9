/- Contracts of the reference's SeAt, SeFirst and SeLast: they return what the library's plain functions occAt, index and lastIndex say, and leave the world as it was. Condition: texts shorter than 2^62 bytes. -/
import Derived.Test.YthnbifkcbeldmaaDoorRows
import Derived.WalkKit
import Derived.WalkSpells
import Derived.WalkLawsBesides
import Derived.Lib.Walk
import Derived.Lib.Strings
import Derived.Lib.IndexBytes
import Derived.Lib.LastIndexLaws
import Derived.Shelf.Strings.LastIndexAll
import Derived.Laws.IdiomStrings
import Derived.BigCall
import Derived.BigGuard
import Derived.Lib.Hide
import Derived.Outline
namespace Go.Proofs.YthnbifkcbeldmaaDoor
open Go.RowKit Go.Lib

/-! ### Plain -/
theorem occAt_far (s sub : ByteArray) (i : Nat) (h : s.size < i + sub.size) (hi : i ≤ s.size) : occAt s.data.toList sub.data.toList i = false := by
  cases ho : occAt s.data.toList sub.data.toList i with
  | false => rfl
  | true =>
    rcases occAt_room ho with h1 | h1
    · simp at h1; omega
    · have : sub.size = 0 := by simpa using congrArg List.length h1
      omega
theorem lastOcc_far (s sub : ByteArray) (h : sub.size ≤ s.size) : ∀ d : Nat, s.size - sub.size + 1 + d ≤ s.size + 1 → lastOcc s.data.toList sub.data.toList (s.size - sub.size + 1 + d) = lastOcc s.data.toList sub.data.toList (s.size - sub.size + 1)
  | 0, _ => rfl
  | d + 1, hd => by
    rw [show s.size - sub.size + 1 + (d + 1) = (s.size - sub.size + 1 + d) + 1 by omega, lastOcc_miss _ _ _ (occAt_far s sub _ (by omega) (by omega)), lastOcc_far s sub h d (by omega)]
theorem lastOcc_long (s sub : ByteArray) (h : s.size < sub.size) : ∀ k : Nat, k ≤ s.size + 1 → lastOcc s.data.toList sub.data.toList k = -1
  | 0, _ => rfl
  | k + 1, hk => by rw [lastOcc_miss _ _ _ (occAt_far s sub _ (by omega) (by omega)), lastOcc_long s sub h k (by omega)]
theorem lastIndex_all (s sub : ByteArray) : lastIndex s.data.toList sub.data.toList = lastOcc s.data.toList sub.data.toList (s.size + 1) := by
  unfold lastIndex
  by_cases h : sub.size ≤ s.size
  · rw [if_pos (by simpa using h)]
    have := lastOcc_far s sub h sub.size (by omega)
    rw [show s.size - sub.size + 1 + sub.size = s.size + 1 by omega] at this
    rw [this]
    simp
  · rw [if_neg (by simpa using h), lastOcc_long s sub (by omega) _ (Nat.le_refl _)]

/-- a byte's own text -/
def b1 (c : Int) : ByteArray := ⟨#[c.toNat.toUInt8]⟩
theorem b1_size (c : Int) : (b1 c).size = 1 := rfl
theorem lastByte_eq (s : ByteArray) (c : Int) (h0 : 0 ≤ c) (h1 : c ≤ 255) : lastIndexByte s c = lastIndex s.data.toList (b1 c).data.toList := by
  have := LastIndex.one s (b1 c) rfl
  rw [← this]
  congr 1
  show c = ((c.toNat.toUInt8).toNat : Int)
  simp; omega

theorem conv1 (c : Int) (h0 : 0 ≤ c) (h1 : c ≤ 255) (w : World) :
    (convert 24 9 (.slice (some ⟨w.heap.size, 0, none⟩) 1 1)).run Tryd.prog (w.alloc (.cells #[.int .u8 c] 5)).drew = .ok (.string (b1 c)) (w.alloc (.cells #[.int .u8 c] 5)).drew := by
  have := run_convert_bytes_back (P := Tryd.prog) (w.alloc (.cells #[.int .u8 c] 5)).drew 24 9 5 ⟨w.heap.size, 0, none⟩ 1 [c.toNat.toUInt8] Tryd.underlying24 Tryd.underlying5 Tryd.underlying9 (fun j hj => by
    have hj0 : j = 0 := by simpa using hj
    subst hj0
    have e : ((c.toNat.toUInt8).toNat : Int) = c := by simp; omega
    show _ = some (Value.int .u8 ((c.toNat.toUInt8).toNat : Int))
    rw [e]
    exact World.cell?_alloc_mark w #[.int .u8 c] 5 _ 0)
  exact this


theorem occ_b1 (s : ByteArray) (c : Int) (k : Nat) (h0 : 0 ≤ c) (h1 : c ≤ 255) (hk : k < s.size) : occAt s.data.toList (b1 c).data.toList k = ((s[k].toNat : Int) == c) := by
  show occAt s.data.toList [c.toNat.toUInt8] k = _
  rw [LastIndex.occ_one s _ k hk]
  have e : ((c.toNat.toUInt8).toNat : Int) = c := by simp; omega
  rw [Bool.eq_iff_iff, beq_iff_eq, beq_iff_eq]
  constructor
  · intro h; rw [← h]; exact e
  · intro h; exact UInt8.toNat_inj.1 (by omega)
theorem index_b1_none (s : ByteArray) (c : Int) (h : NoOcc s.data.toList (b1 c).data.toList s.size) : index s.data.toList (b1 c).data.toList = -1 := by
  refine index_none fun j hj => ?_
  by_cases hl : j < s.size
  · exact h j hl
  · exact occAt_far s (b1 c) j (by rw [b1_size]; omega) (by simpa using hj)

set_option maxHeartbeats 800000 in
theorem seAt (s sep : ByteArray) (i : Int) (hs : s.size < 4611686018427387904) (hp : sep.size < 4611686018427387904) (h0 : 0 ≤ i) (h1 : i ≤ s.size) (w : World) :
    Calls Tryd.prog 86 #[.string s, .string sep, .int .i64 i] w fun e w' => e = .returned (.bool (occAt s.data.toList sep.data.toList i.toNat)) ∧ w = w' := by
  obtain ⟨k, rfl⟩ := Int.eq_ofNat_of_zero_le h0
  rw [Int.toNat_natCast]
  by_cases hr : k + sep.size ≤ s.size
  · have e := Lib.hid (occ_of_piece s sep k hr)
    have hr' : decide ((k : Int) + sep.size ≤ s.size) = true := by simp; omega
    go_enter Tryd.func86, Tryd.ntmps86
    go_wp2
    go_ret
    rw [e.out]
    exact ⟨rfl, rfl⟩
  · have e := Lib.hid (occAt_far s sep k (by omega) (by omega))
    have hr' : decide ((k : Int) + sep.size ≤ s.size) = false := by simp; omega
    go_enter Tryd.func86, Tryd.ntmps86
    go_wp2
    go_ret
    rw [e.out]
    exact ⟨rfl, rfl⟩


end Go.Proofs.YthnbifkcbeldmaaDoor
