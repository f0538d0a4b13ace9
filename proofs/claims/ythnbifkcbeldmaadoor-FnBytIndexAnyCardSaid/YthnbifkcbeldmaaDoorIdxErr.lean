/- The index of U+FFFD: strings.IndexRune at it, and the law FnStrIndexError. -/
import Derived.Test.YthnbifkcbeldmaaDoorBreaks
import Derived.Laws.RangeString
import Derived.Laws.RangeAny
import Derived.LoopTactic
import Derived.WalkSmall
namespace Go.Proofs.YthnbifkcbeldmaaDoor
open Go.RowKit Go.Lib
set_option linter.unusedVariables false

/-- the first place of a list at which a code point stands -/
def firstOf (s : ByteArray) (r : Nat) : List Nat → Int
  | [] => -1
  | i :: l => if (Utf8.decode s i).1 = r then (i : Int) else firstOf s r l
theorem firstOf_ge (s : ByteArray) (r : Nat) : ∀ l, -1 ≤ firstOf s r l
  | [] => by simp [firstOf]
  | i :: l => by unfold firstOf; split; · omega
                 · exact firstOf_ge s r l
theorem firstOf_snoc (s : ByteArray) (r : Nat) (x : Nat) : ∀ l, firstOf s r (l ++ [x]) = if firstOf s r l < 0 ∧ (Utf8.decode s x).1 = r then (x : Int) else firstOf s r l
  | [] => by simp [firstOf]
  | i :: l => by
    rw [List.cons_append, firstOf, firstOf, firstOf_snoc s r x l]
    by_cases h : (Utf8.decode s i).1 = r
    · simp only [if_pos h]; rw [if_neg (by omega)]
    · simp only [if_neg h]

def errAt (s : ByteArray) : Int := firstOf s 65533 (starts s)
def ItRel (s : ByteArray) (w : World) (w' : World) : Prop := ∃ pos : Nat, w' = w.iter s pos ∧ firstOf s 65533 (tailStarts s pos) = errAt s ∧ pos ≤ s.size
set_option maxHeartbeats 4000000 in
set_option maxRecDepth 1000000 in
theorem indexRune_err (s : ByteArray) (w : World) (hs : s.size < 4611686018427387904) :
    Calls Tryd.prog 75 #[.string s, .int .i32 65533] w fun e w' => e = .returned (.int .i64 (errAt s)) ∧ Below w.heap.size w w' := by
  go_enter Tryd.func75, Tryd.ntmps75
  go_wp2_with fail
  go_loopw [] (fun w' => ItRel s w w') (fun w' => s.size - w'.iterPos w.heap.size)
  case atStart => exact ⟨0, rfl, rfl, Nat.zero_le _⟩
  case round =>
    obtain ⟨pos, rfl, hf, hpl⟩ := hrel
    by_cases hp : pos < s.size
    · have hnx : ∀ ty, (Instr.next (.pointer (some ⟨w.heap.size, 0, none⟩)) true ty).run Tryd.prog (w.iter s pos) = _ := fun ty => run_next_any w s pos ty hp
      have hwd := Lib.decode_width_pos s pos hp
      have hl := decode_w_le s pos hp
      rw [tailStarts_step s pos hp, firstOf] at hf
      by_cases he : (Utf8.decode s pos).1 = 65533
      · rw [if_pos he] at hf
        have F := Lib.hid hf
        have h1 : (((Utf8.decode s pos).1 : Int) == 65533) = true := beq_iff_eq.2 (by omega)
        clear hf he
        go_wp2_with fail
        go_ret
        rw [← F.out]
        exact ⟨rfl, (Below.refl _ _).alloc (Nat.le_refl _) _⟩
      · rw [if_neg he] at hf
        have F := Lib.hid hf
        have h1 : (((Utf8.decode s pos).1 : Int) == 65533) = false := beq_eq_false_iff_ne.2 (by omega)
        clear hf he
        go_wp2_with fail
        go_roundw
        case rel => exact ⟨_, rfl, F.out, hl⟩
        case measure => simp; omega
    · have hnx : ∀ ty, (Instr.next (.pointer (some ⟨w.heap.size, 0, none⟩)) true ty).run Tryd.prog (w.iter s pos) = _ := fun ty => run_next_end w s pos ty hp
      rw [tailStarts_end s pos hp, firstOf] at hf
      have F := Lib.hid hf
      clear hf
      go_wp2_with fail
      go_ret
      rw [← F.out]
      exact ⟨rfl, (Below.refl _ _).alloc (Nat.le_refl _) _⟩

end Go.Proofs.YthnbifkcbeldmaaDoor
