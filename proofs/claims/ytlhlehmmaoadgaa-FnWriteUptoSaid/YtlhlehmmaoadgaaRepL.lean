/- Plain: the pairs of a list of texts, and how long their result can be. -/
import Derived.Test.YtlhlehmmaoadgaaRep
import Derived.Test.YtlhlehmmaoadgaaBest
namespace Go.Proofs.Ytlhlehmmaoadgaa
open Go.RowKit Go.Lib
set_option linter.unusedVariables false

/-- the pairs of a list of texts; an odd one at the end has no pair -/
def prs : List ByteArray → Prs
  | a :: b :: r => (a.data.toList, b.data.toList) :: prs r
  | _ => []
theorem prs_get : ∀ (l : List ByteArray) (i : Nat), 2 * i + 1 < l.length → (prs l)[i]? = some ((l.getD (2 * i) ⟨#[]⟩).data.toList, (l.getD (2 * i + 1) ⟨#[]⟩).data.toList)
  | [], i, h => by simp at h
  | [a], i, h => by simp at h
  | a :: b :: r, 0, _ => rfl
  | a :: b :: r, i + 1, h => by
    have ih := prs_get r i (by simp only [List.length_cons] at h; omega)
    rw [prs, List.getElem?_cons_succ, ih, show 2 * (i + 1) = 2 * i + 1 + 1 by omega, show 2 * i + 1 + 1 + 1 = 2 * i + 1 + 1 + 1 from rfl]
    rfl
theorem prs_length : ∀ l : List ByteArray, (prs l).length = l.length / 2
  | [] => rfl
  | [a] => by simp [prs]
  | a :: b :: r => by
    rw [prs, List.length_cons, prs_length r, List.length_cons, List.length_cons]
    omega
theorem prs_append : ∀ (l l' : List ByteArray) (n : Nat), l.length = 2 * n → prs (l ++ l') = prs l ++ prs l'
  | [], l', n, _ => rfl
  | [a], l', n, h => by simp at h; omega
  | a :: b :: r, l', n, h => by
    simp only [List.length_cons] at h
    rw [List.cons_append, List.cons_append, prs, prs, prs_append r l' (n - 1) (by omega), List.cons_append]
theorem prs_mem : ∀ (l : List ByteArray) (p : List UInt8 × List UInt8), p ∈ prs l → ∃ i, 2 * i + 1 < l.length ∧ p = ((l.getD (2 * i) ⟨#[]⟩).data.toList, (l.getD (2 * i + 1) ⟨#[]⟩).data.toList) := by
  intro l p hp
  obtain ⟨i, hi, he⟩ := List.getElem_of_mem hp
  rw [prs_length] at hi
  have h := prs_get l i (by omega)
  exact ⟨i, by omega, by rw [List.getElem?_eq_getElem (by rw [prs_length]; exact hi), he] at h; exact Option.some.inj h⟩
theorem prs_mem_of (l : List ByteArray) (i : Nat) (h : 2 * i + 1 < l.length) : ((l.getD (2 * i) ⟨#[]⟩).data.toList, (l.getD (2 * i + 1) ⟨#[]⟩).data.toList) ∈ prs l :=
  List.mem_of_getElem? (prs_get l i h)
theorem hit_first {l : List ByteArray} {n : Nat} (hl : l.length = 2 * n) {e : Bool} {t : List UInt8} {i : Nat} (h : FirstAt l n t (!e) i) :
    hit (prs l) e t = some ((l.getD (2 * i) ⟨#[]⟩).data.toList, (l.getD (2 * i + 1) ⟨#[]⟩).data.toList) := by
  obtain ⟨h1, h2, h3, h4⟩ := h
  unfold hit
  rw [List.find?_eq_some_iff_getElem]
  refine ⟨?_, i, by rw [prs_length]; omega, ?_, fun j hj => ?_⟩
  · simp only [Bool.and_eq_true, Bool.or_eq_true, Bool.not_eq_true', List.isEmpty_eq_false_iff, List.isPrefixOf_iff_prefix]
    refine ⟨?_, h2⟩
    cases e
    · exact .inr fun h => h3 ⟨rfl, h⟩
    · exact .inl rfl
  · have := prs_get l i (by omega)
    rw [List.getElem?_eq_getElem (by rw [prs_length]; omega)] at this
    exact Option.some.inj this
  · have := prs_get l j (by omega)
    rw [List.getElem?_eq_getElem (by rw [prs_length]; omega)] at this
    rw [Option.some.inj this]
    have hn := h4 j hj
    rw [Bool.not_eq_true', Bool.eq_false_iff]
    intro hb
    simp only [Bool.and_eq_true, Bool.or_eq_true, Bool.not_eq_true', List.isEmpty_eq_false_iff, List.isPrefixOf_iff_prefix] at hb
    apply hn
    refine ⟨hb.2, fun ⟨ha, hz⟩ => ?_⟩
    cases e
    · rcases hb.1 with h | h
      · cases h
      · exact h hz
    · cases ha
theorem hit_noneAt {l : List ByteArray} {n : Nat} (hl : l.length = 2 * n) {e : Bool} {t : List UInt8} (h : NoneAt l n t (!e)) : hit (prs l) e t = none := by
  cases hh : hit (prs l) e t with
  | none => rfl
  | some p =>
    obtain ⟨h1, h2, h3⟩ := hit_some hh
    obtain ⟨i, hi, rfl⟩ := prs_mem l p h1
    exact absurd ⟨h2, fun ⟨ha, hz⟩ => by
      rcases h3 with h3 | h3
      · subst h3; cases ha
      · exact h3 hz⟩ (h i (by omega))
/-- how long a result can be -/
theorem rep_le {l : Prs} {M : Nat} (hM : ∀ p ∈ l, p.2.length ≤ M) : ∀ (k : Nat) (e : Bool) (t : List UInt8), 2 * t.length + (if e then 1 else 0) ≤ k → (rep l e t).length ≤ k * (M + 1) := by
  intro k
  induction k with
  | zero =>
    intro e t h
    have ht : t = [] := List.eq_nil_of_length_eq_zero (by omega)
    have he : e = false := by cases e <;> simp_all
    subst ht he
    cases hh : hit l false [] with
    | none => rw [rep_nil hh]; simp
    | some p =>
      obtain ⟨_, h2, h3⟩ := hit_some hh
      rcases h3 with h3 | h3
      · cases h3
      · exact absurd (List.prefix_nil.1 h2) h3
  | succ k ih =>
    intro e t h
    rw [Nat.succ_mul]
    cases hh : hit l e t with
    | some p =>
      obtain ⟨h1, h2, h3⟩ := hit_some hh
      have hm := hM p h1
      have hl := h2.length_le
      rw [rep_hit hh, List.length_append]
      have := ih (!p.1.isEmpty) (t.drop p.1.length) (by
        rw [List.length_drop]
        by_cases e0 : p.1 = []
        · rcases h3 with rfl | h3
          · simp [e0] at h ⊢; omega
          · exact absurd e0 h3
        · have hp : 0 < p.1.length := List.length_pos_iff.2 e0
          have e1 : (!p.1.isEmpty) = true := by simp [e0]
          rw [e1]
          simp only [if_true]
          omega)
      omega
    | none =>
      cases t with
      | nil => rw [rep_nil hh]; simp
      | cons c r =>
        rw [rep_cons hh, List.length_cons]
        have := ih true r (by simp only [List.length_cons] at h; simp only [if_true]; omega)
        omega
end Go.Proofs.Ytlhlehmmaoadgaa
