/- strings.Count: how often a text stands in another one without overlaps; of the empty one, one more than there are code points. -/
import Derived.Test.YthnbifkcbeldmaaIndex
import Derived.Test.YthnbifkcbeldmaaBrk
import Derived.Lib.SplitLaws
import Derived.Lib.RuneCount
import Derived.Laws.RangeString
import Derived.Laws.RangeAny
import Derived.LoopTactic
import Derived.Below
import Derived.WalkSmall
namespace Go.Proofs.Ythnbifkcbeldmaa
open Go.Shelf Go.RowKit Go.Lib
set_option linter.unusedVariables false

theorem iter_below (w : World) (s : ByteArray) (pos : Nat) : Below w.heap.size w (w.iter s pos) := (Below.refl _ _).alloc (Nat.le_refl _) _

set_option maxHeartbeats 4000000 in
set_option maxRecDepth 1000000 in
theorem runeCountStr (s : ByteArray) (w : World) (hs : s.size < 9223372036854775807) :
    Calls Try.prog 34 #[.string s] w fun e w' => e = .returned (.int .i64 (Lib.runeCount s)) ∧ Below w.heap.size w w' := by
  go_enter Try.func34, Try.ntmps34
  go_wp2
  go_loopw [2] (fun n w' => ∃ (pos b acc : Nat), w' = w.iter s pos ∧ n = .int .i64 acc ∧ acc + Lib.runeCountFrom s b pos = Lib.runeCount s ∧ s.size ≤ pos + b ∧ acc ≤ pos) (fun _ w' => s.size - w'.iterPos w.heap.size)
  case atStart => exact ⟨0, s.size, 0, rfl, rfl, by simp [Lib.runeCount], by omega, Nat.le_refl _⟩
  case round =>
    obtain ⟨pos, b, acc, rfl, rfl, hc, hb, ha⟩ := hrel
    by_cases hp : pos < s.size
    · have hnx : ∀ ty, (Instr.next (.pointer (some ⟨w.heap.size, 0, none⟩)) true ty).run Try.prog (w.iter s pos) = _ := fun ty => run_next_any w s pos ty hp
      have hwd := Lib.decode_width_pos s pos hp
      go_wp2
      go_roundw
      case rel =>
        cases b with
        | zero => omega
        | succ b =>
          refine ⟨pos + (Utf8.decode s pos).2, b, acc + 1, rfl, by go_num, ?_, by omega, by omega⟩
          rw [← hc]
          simp [Lib.runeCountFrom, hp]
          omega
      case measure =>
        simp
        omega
    · have hnx : ∀ ty, (Instr.next (.pointer (some ⟨w.heap.size, 0, none⟩)) true ty).run Try.prog (w.iter s pos) = _ := fun ty => run_next_end w s pos ty hp
      go_wp2
      go_ret
      rw [Lib.runeCountFrom_end s b pos hp, Nat.add_zero] at hc
      subst hc
      exact ⟨rfl, iter_below _ _ _⟩

/-- how often a byte stands in the first k bytes -/
def cntTo (s : ByteArray) (c : Int) (k : Nat) : Nat := (s.data.toList.take k).count c.toNat.toUInt8
theorem cntTo_zero (s : ByteArray) (c : Int) : cntTo s c 0 = 0 := by simp [cntTo]
theorem cntTo_all (s : ByteArray) (c : Int) (k : Nat) (h : s.size ≤ k) : cntTo s c k = cntTo s c s.size := by
  unfold cntTo
  rw [List.take_of_length_le (by simpa using h), List.take_of_length_le (by simp)]
theorem count_snoc (s : ByteArray) (c : Int) (k : Nat) (hk : k < s.size) (h0 : 0 ≤ c) (h1 : c ≤ 255) (x : Bool) (hx : ((s[k].toNat : Int) == c) = x) :
    cntTo s c (k + 1) = cntTo s c k + if x then 1 else 0 := by
  unfold cntTo
  have hl : k < s.data.toList.length := by simpa using hk
  rw [List.take_succ_eq_append_getElem hl, List.count_append]
  have e : s.data.toList[k] = s[k] := rfl
  rw [e, List.count_singleton]
  subst hx
  have e2 : ((c.toNat.toUInt8).toNat : Int) = c := by simp; omega
  congr 1
  by_cases h : s[k] = c.toNat.toUInt8
  · have : ((s[k].toNat : Int) == c) = true := by rw [beq_iff_eq, h]; exact e2
    rw [this, h]; simp
  · have : ((s[k].toNat : Int) == c) = false := by
      rw [beq_eq_false_iff_ne]; intro h'; apply h; exact UInt8.toNat_inj.1 (by omega)
    rw [this]; simp [h]


/-- what strings.Count says -/
def cntB (s sub : ByteArray) : Nat := if sub.size = 0 then runeCount s + 1 else countB s sub
theorem cntB_empty (s sub : ByteArray) (h : sub.size = 0) : cntB s sub = runeCount s + 1 := by unfold cntB; rw [if_pos h]
theorem cntB_one (s sub : ByteArray) (h : sub.size = 1) (i0 : 0 < sub.size) : cntB s sub = cntTo s ((sub[0]'i0).toNat : Int) s.size := by
  unfold cntTo
  rw [List.take_of_length_le (by simp)]
  unfold cntB
  rw [if_neg (by omega)]
  obtain ⟨c, rfl⟩ := one_byte sub h
  show count _ _ = _
  rw [show (⟨#[c]⟩ : ByteArray).data.toList = [c] from rfl, count_one]
  congr 1
  show c = ((c.toNat : Int)).toNat.toUInt8
  simp
theorem cntB_more (s sub : ByteArray) (h : 1 ≤ sub.size) : cntB s sub = countB s sub := by unfold cntB; rw [if_neg (by omega)]
theorem cntB_le (s sub : ByteArray) : cntB s sub ≤ s.size + 1 := by
  by_cases h : sub.size = 0
  · rw [cntB_empty s sub h]; have := runeCount_le s; omega
  · rw [cntB_more s sub (by omega)]; have := countB_le sub (by omega) _ s (Nat.le_refl _); omega



end Go.Proofs.Ythnbifkcbeldmaa
