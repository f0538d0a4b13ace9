/- Plain: the places at which a text is parted, and that they are as many as 'count' says and lie where 'index' says. -/
import Derived.Lib.CountLaws
namespace Go.Proofs.YthnbifkcbeldmaaDoor
open Go.Lib
set_option linter.unusedVariables false

/-- the places of a text that do not overlap, from a place on -/
def brkFrom (s sep : List UInt8) : Nat → Nat → List Nat
  | 0, _ => []
  | f + 1, i => if i + sep.length ≤ s.length then (if occAt s sep i = true then i :: brkFrom s sep f (i + sep.length) else brkFrom s sep f (i + 1)) else []
def brk (s sep : List UInt8) (i : Nat) : List Nat := brkFrom s sep (s.length + 1) i

theorem brkFrom_fuel {s sep : List UInt8} (h1 : 1 ≤ sep.length) : ∀ f f' i, s.length < i + f → s.length < i + f' → brkFrom s sep f i = brkFrom s sep f' i
  | 0, f', i, h, _ => by cases f' with
    | zero => rfl
    | succ f' => rw [brkFrom, brkFrom, if_neg (by omega)]
  | f + 1, 0, i, _, h => by rw [brkFrom, brkFrom, if_neg (by omega)]
  | f + 1, f' + 1, i, h, h' => by
    unfold brkFrom
    rw [brkFrom_fuel h1 f f' (i + sep.length) (by omega) (by omega), brkFrom_fuel h1 f f' (i + 1) (by omega) (by omega)]
theorem brk_end {s sep : List UInt8} {i : Nat} (h : ¬ i + sep.length ≤ s.length) : brk s sep i = [] := by
  unfold brk; rw [brkFrom, if_neg h]
theorem brk_hit {s sep : List UInt8} {i : Nat} (h1 : 1 ≤ sep.length) (h : i + sep.length ≤ s.length) (ho : occAt s sep i = true) : brk s sep i = i :: brk s sep (i + sep.length) := by
  conv => lhs; unfold brk
  rw [brkFrom, if_pos h, if_pos ho]
  unfold brk
  rw [brkFrom_fuel h1 s.length (s.length + 1) _ (by omega) (by omega)]
theorem brk_miss {s sep : List UInt8} {i : Nat} (h1 : 1 ≤ sep.length) (h : i + sep.length ≤ s.length) (ho : occAt s sep i = false) : brk s sep i = brk s sep (i + 1) := by
  conv => lhs; unfold brk
  rw [brkFrom, if_pos h, if_neg (by rw [ho]; exact Bool.noConfusion)]
  unfold brk
  rw [brkFrom_fuel h1 s.length (s.length + 1) _ (by omega) (by omega)]
theorem occ_room {s sep : List UInt8} {i : Nat} (h1 : 1 ≤ sep.length) (hi : i ≤ s.length) (ho : occAt s sep i = true) : i + sep.length ≤ s.length := by
  unfold occAt at ho
  have := (List.isPrefixOf_iff_prefix.1 ho).length_le
  rw [List.length_drop] at this
  omega
theorem index_drop {s sep : List UInt8} {i : Nat} (hi : i < s.length) : index (s.drop i) sep = if occAt s sep i = true then 0 else if index (s.drop (i + 1)) sep == -1 then -1 else index (s.drop (i + 1)) sep + 1 := by
  unfold occAt
  conv => lhs; rw [List.drop_eq_getElem_cons hi, index, ← List.drop_eq_getElem_cons hi]
theorem brk_index {s sep : List UInt8} (h1 : 1 ≤ sep.length) : ∀ n i, s.length - i ≤ n → i ≤ s.length →
    (index (s.drop i) sep = -1 → brk s sep i = []) ∧ ∀ j : Nat, index (s.drop i) sep = j → brk s sep i = (i + j) :: brk s sep (i + j + sep.length)
  | n, i, hn, hi => by
    by_cases he : i = s.length
    · have e : index (s.drop i) sep = -1 := by
        rw [he, List.drop_length, index, if_neg (by cases sep <;> simp_all)]
      refine ⟨fun _ => brk_end (by omega), fun j hj => ?_⟩
      rw [e] at hj
      omega
    have hl : i < s.length := by omega
    rw [index_drop hl]
    by_cases ho : occAt s sep i = true
    · rw [if_pos ho]
      refine ⟨fun h => by omega, fun j hj => ?_⟩
      obtain rfl : j = 0 := by omega
      rw [brk_hit h1 (occ_room h1 hi ho) ho, Nat.add_zero]
    · rw [if_neg ho]
      have hof : occAt s sep i = false := by simpa using ho
      cases n with
      | zero => omega
      | succ n =>
        obtain ⟨ih1, ih2⟩ := brk_index (s := s) h1 n (i + 1) (by omega) (by omega)
        by_cases hr : i + sep.length ≤ s.length
        · rw [brk_miss h1 hr hof]
          by_cases hm : index (s.drop (i + 1)) sep = -1
          · rw [if_pos (beq_iff_eq.2 hm)]
            exact ⟨fun _ => ih1 hm, fun j hj => by omega⟩
          · rw [if_neg (fun h => hm (beq_iff_eq.1 h))]
            have := index_ge (s.drop (i + 1)) sep
            refine ⟨fun h => by omega, fun j hj => ?_⟩
            have e := ih2 (j - 1) (by omega)
            rw [show i + 1 + (j - 1) = i + j by omega] at e
            exact e
        · rw [brk_end hr]
          refine ⟨fun _ => rfl, fun j hj => ?_⟩
          by_cases hm : index (s.drop (i + 1)) sep = -1
          · rw [if_pos (beq_iff_eq.2 hm)] at hj; omega
          · have := index_ge (s.drop (i + 1)) sep
            have hroom := index_room (s.drop (i + 1)) sep (by omega)
            rw [List.length_drop] at hroom
            omega
theorem brk_none {s sep : List UInt8} (h1 : 1 ≤ sep.length) {i : Nat} (hi : i ≤ s.length) (h : index (s.drop i) sep = -1) : brk s sep i = [] := (brk_index h1 _ i (Nat.le_refl _) hi).1 h
theorem brk_some {s sep : List UInt8} (h1 : 1 ≤ sep.length) {i j : Nat} (hi : i ≤ s.length) (h : index (s.drop i) sep = j) : brk s sep i = (i + j) :: brk s sep (i + j + sep.length) := (brk_index h1 _ i (Nat.le_refl _) hi).2 j h
theorem count_brk {s sep : List UInt8} (h1 : 1 ≤ sep.length) : ∀ n i, s.length - i ≤ n → i ≤ s.length → count (s.drop i) sep = (brk s sep i).length
  | n, i, hn, hi => by
    have hge := index_ge (s.drop i) sep
    by_cases hm : index (s.drop i) sep = -1
    · rw [count_miss hm, brk_none h1 hi hm]; rfl
    · obtain ⟨j, hj⟩ : ∃ j : Nat, index (s.drop i) sep = j := ⟨(index (s.drop i) sep).toNat, by omega⟩
      have hroom := index_room (s.drop i) sep (by omega)
      rw [List.length_drop] at hroom
      rw [brk_some h1 hi hj, count_hit (fun e => by rw [e] at h1; simp at h1) hj, List.drop_drop, List.length_cons]
      cases n with
      | zero => omega
      | succ n =>
        have := count_brk (s := s) h1 n (i + (j + sep.length)) (by omega) (by omega)
        rw [this, Nat.add_comm 1, Nat.add_assoc]
theorem countB_brk (s sep : ByteArray) (h1 : 1 ≤ sep.size) : countB s sep = (brk s.data.toList sep.data.toList 0).length := by
  have := count_brk (s := s.data.toList) (sep := sep.data.toList) (by simpa using h1) _ 0 (Nat.le_refl _) (Nat.zero_le _)
  simpa using this
theorem brk_len_le {s sep : List UInt8} (h1 : 1 ≤ sep.length) : ∀ n i, s.length - i ≤ n → (brk s sep i).length ≤ s.length - i
  | n, i, hn => by
    by_cases hr : i + sep.length ≤ s.length
    · cases n with
      | zero => omega
      | succ n =>
        by_cases ho : occAt s sep i = true
        · rw [brk_hit h1 hr ho, List.length_cons]
          have := brk_len_le (s := s) h1 n (i + sep.length) (by omega)
          omega
        · rw [brk_miss h1 hr (by simpa using ho)]
          have := brk_len_le (s := s) h1 n (i + 1) (by omega)
          omega
    · rw [brk_end hr]; simp

/-- at most so many, if this is not less than 0 -/
def cutMost (m : Int) (l : List Nat) : List Nat := if m < 0 then l else l.take m.toNat
theorem cutMost_neg {m : Int} (h : m < 0) (l : List Nat) : cutMost m l = l := by unfold cutMost; rw [if_pos h]
/-- one more, while there is room -/
theorem cutMost_more {m : Int} {l r : List Nat} (x : Nat) (h : m < 0 ∨ (l.length : Int) < m) : cutMost m (l ++ x :: r) = cutMost m ((l ++ [x]) ++ r) := by simp
theorem cutMost_snoc {m : Int} (l : List Nat) (x : Nat) (h : m < 0 ∨ ((cutMost m l).length : Int) < m) : cutMost m (l ++ [x]) = cutMost m l ++ [x] := by
  unfold cutMost at *
  by_cases hm : m < 0
  · simp [hm]
  · simp only [hm, if_false, false_or] at *
    rw [List.length_take] at h
    rw [List.take_of_length_le (by simp; omega), List.take_of_length_le (by omega)]
theorem cutMost_full {m : Int} (l r : List Nat) (h : ¬ (m < 0 ∨ ((cutMost m l).length : Int) < m)) : cutMost m (l ++ r) = cutMost m l := by
  unfold cutMost at *
  by_cases hm : m < 0
  · exact absurd (.inl hm) h
  · simp only [hm, if_false, false_or] at *
    rw [List.length_take] at h
    rw [List.take_append_of_le_length (by omega)]
theorem cutMost_len (m : Int) (l : List Nat) : (cutMost m l).length ≤ l.length := by
  unfold cutMost; split
  · exact Nat.le_refl _
  · rw [List.length_take]; omega
end Go.Proofs.YthnbifkcbeldmaaDoor
