/- A text in which others are exchanged, by the places where it is parted: plain laws. -/
import Derived.Test.YthnbifkcbeldmaaDoorBreaks
import Derived.Test.YthnbifkcbeldmaaDoorPieces
import Derived.Lib.Replace
import Derived.Lib.ReplaceLaws
import Derived.Lib.SplitLaws
namespace Go.Proofs.YthnbifkcbeldmaaDoor
open Go.RowKit Go.Lib
set_option linter.unusedVariables false
/-- the pieces between the places, 'new' ahead of each place's end -/
def rj (S N : List UInt8) (k : Nat) : List Nat → Nat → List UInt8
  | [], f => S.drop f
  | i :: l, f => (S.drop f).take (i - f) ++ N ++ rj S N k l (i + k)
/-- the ends of the code points from a place on -/
def endsOf (s : ByteArray) (f : Nat) : List Nat := (tailStarts s f ++ [s.size]).tail
theorem tail_ends (s : ByteArray) (f : Nat) (hf : f ≤ s.size) : tailStarts s f ++ [s.size] = f :: endsOf s f := by
  unfold endsOf
  by_cases h : f < s.size
  · rw [tailStarts_step s f h]; rfl
  · obtain rfl : f = s.size := by omega
    rw [tailStarts_end s _ h]; rfl
theorem ends_step {s : ByteArray} {f : Nat} (h : f < s.size) : endsOf s f = (f + (Utf8.decode s f).2) :: endsOf s (f + (Utf8.decode s f).2) := by
  have h2 := decode_w_le s f h
  have := tail_ends s _ h2
  rw [← this]
  unfold endsOf
  rw [tailStarts_step s f h]
  rfl
theorem ends_end {s : ByteArray} {f : Nat} (h : ¬ f < s.size) : endsOf s f = [] := by
  unfold endsOf
  rw [tailStarts_end s _ h]; rfl
/-- where a text is parted -/
def places (s old : ByteArray) (n : Int) : List Nat := if old.size = 0 then cutMost n (starts s ++ [s.size]) else breaks s old n
def seRepl (s old new : ByteArray) (n : Int) : List UInt8 := rj s.data.toList new.data.toList old.size (places s old n) 0
def seReplB (s old new : ByteArray) (n : Int) : ByteArray := ⟨(seRepl s old new n).toArray⟩
theorem cut_zero (l : List Nat) : cutMost 0 l = [] := by unfold cutMost; rw [if_neg (by omega)]; rfl
theorem breaks_zero (s sep : ByteArray) : breaks s sep 0 = [] := by unfold breaks; exact cut_zero _
theorem places_zero (s old : ByteArray) : places s old 0 = [] := by
  unfold places
  split
  · exact cut_zero _
  · exact breaks_zero _ _
theorem seRepl_zero (s old new : ByteArray) : seRepl s old new 0 = s.data.toList := by
  unfold seRepl; rw [places_zero]; rfl
/-- how many are exchanged, for a number of places -/
def howMany (c : Nat) (n : Int) : Nat := if n < 0 ∨ (c : Int) < n then c else n.toNat
theorem cut_many (n : Int) (l : List Nat) : cutMost n l = l.take (howMany l.length n) := by
  unfold cutMost howMany
  by_cases h : n < 0
  · rw [if_pos h, if_pos (.inl h), List.take_length]
  · rw [if_neg h]
    by_cases h2 : (l.length : Int) < n
    · rw [if_pos (.inr h2), List.take_length, List.take_of_length_le (by omega)]
    · rw [if_neg (fun h3 => by rcases h3 with h3 | h3 <;> omega)]
theorem rj_replaceK {S N O : List UInt8} (h1 : 1 ≤ O.length) : ∀ g f, f ≤ S.length → rj S N O.length ((brk S O f).take g) f = replaceK O N g (S.drop f) := by
  intro g
  induction g with
  | zero => intro f _; simp [rj, replaceK]
  | succ g ih =>
    intro f hf
    by_cases hi : index (S.drop f) O = -1
    · rw [brk_none h1 hf hi, replaceK, if_pos (by rw [hi]; rfl)]
      simp [rj]
    · have hge := index_ge (S.drop f) O
      obtain ⟨j, hj⟩ : ∃ j : Nat, index (S.drop f) O = j := ⟨(index (S.drop f) O).toNat, by omega⟩
      have hroom := Lib.index_room (S.drop f) O (by rw [hj]; omega)
      rw [hj, List.length_drop] at hroom
      rw [brk_some h1 hf hj, List.take_succ_cons, rj, replaceK_hit _ _ _ _ _ hj, ih _ (by omega), List.drop_drop, Nat.add_sub_cancel_left, Nat.add_assoc]
theorem seRepl_text (s old new : ByteArray) (n : Int) (h1 : 1 ≤ old.size) : seRepl s old new n = replaceK old.data.toList new.data.toList (replaceNum s.data.toList old.data.toList n) s.data.toList := by
  have hO : old.data.toList.length = old.size := (Lib.size_eq old).symm
  have hb : places s old n = (brk s.data.toList old.data.toList 0).take (howMany (brk s.data.toList old.data.toList 0).length n) := by
    unfold places breaks
    rw [if_neg (by omega), if_neg (by omega), cut_many]
  have hc : count s.data.toList old.data.toList = (brk s.data.toList old.data.toList 0).length := countB_brk s old h1
  unfold seRepl
  rw [hb, ← hO, rj_replaceK (by omega) _ 0 (Nat.zero_le _), List.drop_zero]
  unfold replaceNum howMany
  rw [hc]
theorem rj_len (S N : List UInt8) (k : Nat) : ∀ l f, (rj S N k l f).length ≤ S.length - f + l.length * (N.length + S.length) := by
  intro l
  induction l with
  | nil => intro f; simp [rj]
  | cons i l ih =>
    intro f
    have h := ih (i + k)
    rw [rj, List.length_append, List.length_append, List.length_take, List.length_drop, List.length_cons, Nat.succ_mul]
    omega
/-- the sum of the pieces, where the places go up -/
theorem rj_len2 {S N : List UInt8} {k : Nat} : ∀ l f, okB S.length k l f → f ≤ S.length → (rj S N k l f).length ≤ S.length - f + l.length * N.length := by
  intro l
  induction l with
  | nil => intro f _ _; simp [rj]
  | cons i l ih =>
    intro f h hf
    obtain ⟨h1, h2, h3⟩ := h
    have h := ih (i + k) h3 h2
    rw [rj, List.length_append, List.length_append, List.length_take, List.length_drop, List.length_cons, Nat.succ_mul]
    omega
/-- 'new' is empty and nothing is left out: the text stays -/
theorem rj_nothing {S : List UInt8} : ∀ l f, okB S.length 0 l f → rj S [] 0 l f = S.drop f := by
  intro l
  induction l with
  | nil => intro f _; rfl
  | cons i l ih =>
    intro f h
    obtain ⟨h1, h2, h3⟩ := h
    rw [rj, ih _ h3, List.append_nil, Nat.add_zero]
    have := List.take_append_drop (i - f) (S.drop f)
    rwa [List.drop_drop, show f + (i - f) = i by omega] at this
theorem replaceK_same (O : List UInt8) : ∀ g s, replaceK O O g s = s := by
  intro g
  induction g with
  | zero => intro s; rfl
  | succ g ih =>
    intro s
    rcases index_spec s O with ⟨h, _⟩ | ⟨i, h, hi, ho, _⟩
    · rw [replaceK, if_pos (by rw [h]; rfl)]
    · rw [replaceK_hit _ _ _ _ _ h, ih]
      obtain ⟨t, ht⟩ := List.isPrefixOf_iff_prefix.1 ho
      rw [← List.drop_drop, ← ht, List.drop_left, List.append_assoc, ht, List.take_append_drop]
theorem okB_places (s old : ByteArray) (n : Int) : okB s.size old.size (places s old n) 0 := by
  unfold places
  split
  · rename_i h
    rw [h]
    apply okB_cut
    rw [← tailStarts_zero, tail_ends s 0 (Nat.zero_le _)]
    have h2 : ∀ n f, s.size - f ≤ n → f ≤ s.size → okB s.size 0 (f :: endsOf s f) f := by
      intro n
      induction n with
      | zero =>
        intro f h1 h2
        rw [ends_end (by omega)]
        exact ⟨Nat.le_refl _, by omega, h2⟩
      | succ n ih =>
        intro f h1 h2
        refine ⟨Nat.le_refl _, by omega, ?_⟩
        by_cases h3 : f < s.size
        · rw [ends_step h3]
          have hw := decode_width_pos s f h3
          have hl := decode_w_le s f h3
          exact okB_mono _ _ (by omega) _ (ih _ (by omega) hl)
        · rw [ends_end h3]
          exact h2
    exact h2 s.size 0 (by omega) (Nat.zero_le _)
  · exact okB_breaks s old n
theorem seRepl_same (s old new : ByteArray) (n : Int) (h : old = new) : seRepl s old new n = s.data.toList := by
  subst h
  by_cases h1 : 1 ≤ old.size
  · rw [seRepl_text s old old n h1, replaceK_same]
  · have h0 : old.data.toList = [] := List.eq_nil_of_length_eq_zero (by rw [← Lib.size_eq]; omega)
    have := okB_places s old n
    unfold seRepl
    rw [h0, show old.size = 0 by omega] at *
    rw [Lib.size_eq] at this
    exact rj_nothing _ _ this
theorem seRepl_no (s old new : ByteArray) (n : Int) (h1 : 1 ≤ old.size) (h : countB s old = 0) : seRepl s old new n = s.data.toList := by
  rw [seRepl_text s old new n h1]
  have hc : count s.data.toList old.data.toList = 0 := h
  unfold replaceNum
  rw [hc]
  have : (if n < 0 ∨ ((0 : Nat) : Int) < n then 0 else n.toNat) = 0 := by split <;> omega
  rw [this]
  rfl
theorem places_len (s old : ByteArray) (n : Int) : (places s old n).length ≤ s.size + 1 := by
  unfold places
  split
  · refine Nat.le_trans (cutMost_len _ _) ?_
    rw [List.length_append]
    have := starts_le s
    simp
    omega
  · have := breaks_len s old n
    omega
theorem seRepl_len (s old new : ByteArray) (n : Int) : (seRepl s old new n).length ≤ s.size + (s.size + 1) * new.size := by
  have h := okB_places s old n
  have h1 := places_len s old n
  rw [Lib.size_eq] at h
  have h2 := rj_len2 (N := new.data.toList) _ _ h (Nat.zero_le _)
  have h3 := Nat.mul_le_mul_right new.data.toList.length h1
  unfold seRepl
  rw [Lib.size_eq s, Lib.size_eq new] at *
  omega
theorem seReplB_of {s old new : ByteArray} {n : Int} {r : ByteArray} (h : r.data.toList = seRepl s old new n) : r = seReplB s old new n := by
  unfold seReplB
  rw [← h]
end Go.Proofs.YthnbifkcbeldmaaDoor
