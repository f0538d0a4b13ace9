/- The index of U+FFFD: strings.IndexRune at it, and the law FnStrIndexError. -/
import Derived.Test.YtbpgeaaeghbniaaBreaks
import Derived.Laws.RangeString
import Derived.Laws.RangeAny
import Derived.LoopTactic
import Derived.WalkSmall
namespace Go.Proofs.Ytbpgeaaeghbniaa
open Go.RowKit Go.Lib
set_option linter.unusedVariables false

/-- the first place of a list at which a code point stands -/
def firstOf (s : ByteArray) (r : Nat) : List Nat → Int
  | [] => -1
  | i :: l => if (Utf8.decode s i).1 = r then (i : Int) else firstOf s r l
theorem firstOf_ge (s : ByteArray) (r : Nat) : ∀ l, -1 ≤ firstOf s r l
  | [] => by simp [firstOf]
  | i :: l => by unfold firstOf; split; · omega
                 · exact firstOf_ge s r l
theorem firstOf_snoc (s : ByteArray) (r : Nat) (x : Nat) : ∀ l, firstOf s r (l ++ [x]) = if firstOf s r l < 0 ∧ (Utf8.decode s x).1 = r then (x : Int) else firstOf s r l
  | [] => by simp [firstOf]
  | i :: l => by
    rw [List.cons_append, firstOf, firstOf, firstOf_snoc s r x l]
    by_cases h : (Utf8.decode s i).1 = r
    · simp only [if_pos h]; rw [if_neg (by omega)]
    · simp only [if_neg h]

def errAt (s : ByteArray) : Int := firstOf s 65533 (starts s)
def ItRel (s : ByteArray) (w : World) (w' : World) : Prop := ∃ pos : Nat, w' = w.iter s pos ∧ firstOf s 65533 (tailStarts s pos) = errAt s ∧ pos ≤ s.size
set_option maxHeartbeats 4000000 in
set_option maxRecDepth 1000000 in
theorem indexRune_err (s : ByteArray) (w : World) (hs : s.size < 4611686018427387904) :
    Calls Try.prog 12 #[.string s, .int .i32 65533] w fun e w' => e = .returned (.int .i64 (errAt s)) ∧ Below w.heap.size w w' := by
  go_enter Try.func12, Try.ntmps12
  go_wp2_with fail
  go_loopw [] (fun w' => ItRel s w w') (fun w' => s.size - w'.iterPos w.heap.size)
  case atStart => exact ⟨0, rfl, rfl, Nat.zero_le _⟩
  case round =>
    obtain ⟨pos, rfl, hf, hpl⟩ := hrel
    by_cases hp : pos < s.size
    · have hnx : ∀ ty, (Instr.next (.pointer (some ⟨w.heap.size, 0, none⟩)) true ty).run Try.prog (w.iter s pos) = _ := fun ty => run_next_any w s pos ty hp
      have hwd := Lib.decode_width_pos s pos hp
      have hl := decode_w_le s pos hp
      rw [tailStarts_step s pos hp, firstOf] at hf
      by_cases he : (Utf8.decode s pos).1 = 65533
      · rw [if_pos he] at hf
        have F := Lib.hid hf
        have h1 : (((Utf8.decode s pos).1 : Int) == 65533) = true := beq_iff_eq.2 (by omega)
        clear hf he
        go_wp2_with fail
        go_ret
        rw [← F.out]
        exact ⟨rfl, (Below.refl _ _).alloc (Nat.le_refl _) _⟩
      · rw [if_neg he] at hf
        have F := Lib.hid hf
        have h1 : (((Utf8.decode s pos).1 : Int) == 65533) = false := beq_eq_false_iff_ne.2 (by omega)
        clear hf he
        go_wp2_with fail
        go_roundw
        case rel => exact ⟨_, rfl, F.out, hl⟩
        case measure => simp; omega
    · have hnx : ∀ ty, (Instr.next (.pointer (some ⟨w.heap.size, 0, none⟩)) true ty).run Try.prog (w.iter s pos) = _ := fun ty => run_next_end w s pos ty hp
      rw [tailStarts_end s pos hp, firstOf] at hf
      have F := Lib.hid hf
      clear hf
      go_wp2_with fail
      go_ret
      rw [← F.out]
      exact ⟨rfl, (Below.refl _ _).alloc (Nat.le_refl _) _⟩

theorem implIndexRune_err (s : ByteArray) (w : World) (hs : s.size < 4611686018427387904) :
    Calls Try.prog 10 #[.string s, .int .i32 65533] w fun e w' => e = .returned (.int .i64 (errAt s)) ∧ Below w.heap.size w w' := by
  go_enter Try.func10, Try.ntmps10
  go_wp2_with (go_at_call 12; refine (indexRune_err s _ hs).mono ?_; rintro e w' ⟨rfl, hB⟩)
  go_ret
  exact ⟨rfl, hB⟩

def IeRel (s : ByteArray) (l : List Nat) (a i : Value) : Prop := ∃ k : Nat, i = .int .i64 k ∧ k ≤ l.length ∧ a = .int .i64 (firstOf s 65533 (l.take k))
set_option maxHeartbeats 1600000 in
theorem walk_FnStrIndexError (a0 : ByteArray) (w : World) (w0 : a0.size ≤ maxLen) :
    Calls Try.prog 4 #[.string a0] w fun e w' => e = .returned (.bool true) ∧ Below w.heap.size w w' := by
  unfold maxLen at w0
  by_cases h0 : 2147483647 < a0.size
  · go_enter Try.func4, Try.ntmps4
    go_wp2
    go_ret
    exact ⟨rfl, Below.refl _ _⟩
  have hsl := starts_le a0
  have hlt := Lib.hid (starts_lt a0)
  have hab : Hid (errAt ⟨#[97, 255]⟩ = 1) := by show _ = _; decide
  go_enter Try.func4, Try.ntmps4
  go_wp2_with (go_at_call 8; refine (seStarts a0 (by omega) _).mono ?_; rintro e w2 ⟨v2, rfl, hown2, hB2⟩; obtain ⟨a2, cap2, rfl, hc2, hr2⟩ := own_ints hown2; have HR := Lib.hid hr2; clear hr2)
  have HE := Lib.hid (show firstOf a0 65533 (starts a0) = errAt a0 from rfl)
  generalize hl : starts a0 = l at *
  clear hl
  go_loop [3, 14] (IeRel a0 l) (fun _ i => l.length - (RowKit.intOf i).toNat)
  case atStart => exact ⟨0, rfl, Nat.zero_le _, rfl⟩
  case round =>
    obtain ⟨k, rfl, hkl, rfl⟩ := hrel
    have hge := firstOf_ge a0 65533 (l.take k)
    by_cases hk : k < l.length
    · obtain ⟨g, rfl, hg, hcell⟩ := HR.out k hk
      have hx : l[k] < a0.size := hlt.out l[k] (List.getElem_mem _)
      have hsn := firstOf_snoc a0 65533 l[k] (l.take k)
      rw [← List.take_succ_eq_append_getElem hk] at hsn
      generalize hy : l[k] = y at *
      clear hy
      by_cases he : (Utf8.decode a0 y).1 = 65533
      · have h1 : (((Utf8.decode a0 y).1 : Int) == 65533) = true := beq_iff_eq.2 (by omega)
        by_cases hn : firstOf a0 65533 (l.take k) < 0
        · rw [if_pos ⟨hn, he⟩] at hsn
          have F := Lib.hid hsn
          clear hsn he
          go_wp2_with (go_at_call 9; refine (seRune a0 y hx (by omega) _).mono ?_; rintro e w' ⟨rfl, rfl⟩)
          go_round
          case rel => exact ⟨k + 1, by go_num, by omega, by rw [F.out]⟩
          case measure => simp [RowKit.intOf]; omega
        · rw [if_neg (by omega)] at hsn
          have F := Lib.hid hsn
          clear hsn he
          go_wp2_with (go_at_call 9; refine (seRune a0 y hx (by omega) _).mono ?_; rintro e w' ⟨rfl, rfl⟩)
          go_round
          case rel => exact ⟨k + 1, by go_num, by omega, by rw [F.out]⟩
          case measure => simp [RowKit.intOf]; omega
      · have h1 : (((Utf8.decode a0 y).1 : Int) == 65533) = false := beq_eq_false_iff_ne.2 (by omega)
        rw [if_neg (fun h => he h.2)] at hsn
        have F := Lib.hid hsn
        clear hsn he
        go_wp2_with (go_at_call 9; refine (seRune a0 y hx (by omega) _).mono ?_; rintro e w' ⟨rfl, rfl⟩)
        go_round
        case rel => exact ⟨k + 1, by go_num, by omega, by rw [F.out]⟩
        case measure => simp [RowKit.intOf]; omega
    · obtain rfl : k = l.length := by omega
      rw [List.take_length, HE.out]
      have hkI : ¬ (l.length : Int) < l.length := by omega
      go_wp2_with (first
        | (go_at_call 10; refine (implIndexRune_err a0 _ (by omega)).mono ?_; rintro e w4 ⟨rfl, hB4⟩)
        | (go_at_call 10; refine (implIndexRune_err ⟨#[97, 255]⟩ _ (by decide)).mono ?_; rintro e w5 ⟨rfl, hB5⟩; rw [hab.out]))
      all_goals (go_ret; exact ⟨rfl, (hB2.trans (hB4.mono hB2.size)).trans (hB5.mono (Nat.le_trans hB2.size hB4.size))⟩)
end Go.Proofs.Ytbpgeaaeghbniaa
