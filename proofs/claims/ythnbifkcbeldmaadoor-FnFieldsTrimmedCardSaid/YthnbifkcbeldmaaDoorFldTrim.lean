/- Plain: white space at both ends of a text makes no field. -/
import Derived.Lib.SpaceUEq
namespace Go.Proofs.YthnbifkcbeldmaaDoor
open Go.Lib
set_option linter.unusedVariables false

theorem prefix_app (q0 : UInt8) (qt : List UInt8) : ∀ (m t : List UInt8), (∀ x ∈ m, x ≠ q0) → m.isPrefixOf (t ++ q0 :: qt) = m.isPrefixOf t
  | [], t, _ => by simp
  | a :: m, [], h => by
    have : (a == q0) = false := beq_eq_false_iff_ne.2 (h a (by simp))
    simp [List.isPrefixOf, this]
  | a :: m, b :: t, h => by
    have ih := prefix_app q0 qt m t (fun x hx => h x (List.mem_cons_of_mem _ hx))
    show ((a == b) && m.isPrefixOf (t ++ q0 :: qt)) = ((a == b) && m.isPrefixOf t)
    rw [ih]
theorem seqs_apart : ∀ m ∈ spaceSeqs, ∀ q ∈ spaceSeqs, ∀ x ∈ m.tail, q.head? ≠ some x := by decide
theorem seqs_head : ∀ q ∈ spaceSeqs, headSpace q = q.length ∧ q ≠ [] := by decide
theorem head_app (q : List UInt8) (hq : q ∈ spaceSeqs) (b : UInt8) (t : List UInt8) : headSpace (b :: t ++ q) = headSpace (b :: t) := by
  obtain ⟨q0, qt, rfl⟩ : ∃ q0 qt, q = q0 :: qt := by
    cases q with
    | nil => exact absurd rfl (seqs_head _ hq).2
    | cons x y => exact ⟨x, y, rfl⟩
  have hfind : spaceSeqs.find? (·.isPrefixOf (b :: t ++ q0 :: qt)) = spaceSeqs.find? (·.isPrefixOf (b :: t)) := by
    have : ∀ l : List (List UInt8), (∀ m ∈ l, m ∈ spaceSeqs) → l.find? (·.isPrefixOf (b :: t ++ q0 :: qt)) = l.find? (·.isPrefixOf (b :: t)) := by
      intro l
      induction l with
      | nil => intro _; rfl
      | cons m r ih =>
        intro hm
        have h1 : m.isPrefixOf (b :: t ++ q0 :: qt) = m.isPrefixOf (b :: t) := by
          cases m with
          | nil => simp
          | cons a m' =>
            show ((a == b) && m'.isPrefixOf (t ++ q0 :: qt)) = ((a == b) && m'.isPrefixOf t)
            rw [prefix_app q0 qt m' t (fun x hx e => seqs_apart (a :: m') (hm _ (by simp)) _ hq x hx (by simp [e]))]
        simp only [List.find?, h1, ih (fun x hx => hm x (List.mem_cons_of_mem _ hx))]
    exact this spaceSeqs (fun _ h => h)
  unfold headSpace
  rw [hfind]
theorem head_le (l : List UInt8) : headSpace l ≤ l.length := by
  unfold headSpace
  cases h : spaceSeqs.find? (·.isPrefixOf l) with
  | none => exact Nat.zero_le _
  | some m =>
    have := List.find?_some h
    exact (List.isPrefixOf_iff_prefix.1 this).length_le
theorem fieldsGo_nil (f : Nat) (cur : List UInt8) : fieldsGoU f cur [] = if cur = [] then [] else [cur] := by cases f <;> rfl
theorem fieldsGo_app (q : List UInt8) (hq : q ∈ spaceSeqs ∨ q = []) : ∀ (f f' : Nat) (cur p : List UInt8), p.length + q.length < f → p.length < f' → fieldsGoU f cur (p ++ q) = fieldsGoU f' cur p
  | 0, f', cur, p, h, _ => by omega
  | f + 1, 0, cur, p, _, h => by omega
  | f + 1, f' + 1, cur, [], h, _ => by
    rcases hq with hq | rfl
    · obtain ⟨h1, h2⟩ := seqs_head q hq
      rw [List.nil_append, fieldsGo_nil]
      cases q with
      | nil => exact absurd rfl h2
      | cons b t =>
        unfold fieldsGoU
        rw [if_neg (by rw [h1]; simp), h1, List.drop_length, fieldsGo_nil]
        simp
    · rw [List.nil_append, fieldsGo_nil, fieldsGo_nil]
  | f + 1, f' + 1, cur, b :: t, h, h' => by
    have hh : headSpace (b :: t ++ q) = headSpace (b :: t) := by
      rcases hq with hq | rfl
      · exact head_app q hq b t
      · rw [List.append_nil]
    have hle := head_le (b :: t)
    simp only [List.length_cons] at h h' hle
    show fieldsGoU (f + 1) cur (b :: (t ++ q)) = _
    unfold fieldsGoU
    rw [show b :: (t ++ q) = b :: t ++ q from rfl, hh]
    by_cases h0 : headSpace (b :: t) = 0
    · rw [if_pos h0, if_pos h0]
      exact fieldsGo_app q hq f f' _ t (by omega) (by omega)
    · rw [if_neg h0, if_neg h0, List.drop_append_of_le_length hle]
      rw [fieldsGo_app q hq f f' [] ((b :: t).drop (headSpace (b :: t))) (by simp; omega) (by simp; omega)]
theorem fields_head (l : List UInt8) : fieldsU (l.drop (headSpace l)) = fieldsU l := by
  by_cases h0 : headSpace l = 0
  · rw [h0, List.drop_zero]
  · cases l with
    | nil => rfl
    | cons b t =>
      have hle := head_le (b :: t)
      show _ = fieldsGoU ((b :: t).length + 1) [] (b :: t)
      conv => rhs; unfold fieldsGoU
      rw [if_neg h0, if_pos rfl, List.nil_append]
      have := fieldsGo_app [] (.inr rfl) (((b :: t).drop (headSpace (b :: t))).length + 1) (b :: t).length [] ((b :: t).drop (headSpace (b :: t))) (by simp) (by simp at hle ⊢; omega)
      rw [List.append_nil] at this
      exact this
theorem fields_stripL : ∀ (f : Nat) (l : List UInt8), fieldsU (stripL f l) = fieldsU l
  | 0, l => rfl
  | f + 1, l => by
    unfold stripL
    split
    · rfl
    · rw [fields_stripL f _, fields_head]
theorem fields_tail (l : List UInt8) : fieldsU (l.take (l.length - tailSpace l)) = fieldsU l := by
  unfold tailSpace
  cases h : spaceSeqs.find? (·.isSuffixOf l) with
  | none => simp
  | some q =>
    have hq := List.mem_of_find?_eq_some h
    have hs := List.find?_some h
    obtain ⟨p, rfl⟩ := List.isSuffixOf_iff_suffix.1 hs
    have e : (p ++ q).take ((p ++ q).length - q.length) = p := by simp
    show fieldsU ((p ++ q).take ((p ++ q).length - q.length)) = _
    rw [e]
    exact (fieldsGo_app q (.inl hq) _ _ [] p (by simp) (by simp)).symm
theorem fields_stripR : ∀ (f : Nat) (l : List UInt8), fieldsU (stripR f l) = fieldsU l
  | 0, l => rfl
  | f + 1, l => by
    unfold stripR
    split
    · rfl
    · rw [fields_stripR f _, fields_tail]
/-- a text without the white space at both ends has the same fields -/
theorem fields_trimmed (l : List UInt8) : fieldsD (trimSpaceD l) = fieldsD l := by
  rw [← fieldsU_eq, ← fieldsU_eq, ← trimSpaceU_eq]
  unfold trimSpaceU
  rw [fields_stripR, fields_stripL]
end Go.Proofs.YthnbifkcbeldmaaDoor
