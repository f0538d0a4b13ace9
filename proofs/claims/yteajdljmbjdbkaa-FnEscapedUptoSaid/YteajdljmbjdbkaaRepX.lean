/- Plain: longer old texts first; the longest old text that stands there; bytes that are written as two bytes. -/
import Derived.Test.YteajdljmbjdbkaaRep
namespace Go.Proofs.Yteajdljmbjdbkaa
open Go.Lib
set_option linter.unusedVariables false

abbrev Pr := List UInt8 × List UInt8
/-- the longest so far -/
def bestStep (t : List UInt8) (b : Option Pr) (p : Pr) : Option Pr :=
  if p.1 ≠ [] ∧ p.1.isPrefixOf t = true ∧ (∀ q, b = some q → q.1.length < p.1.length) then some p else b
/-- the longest old text in front of a text; of two of one length the first -/
def bestL (l : Prs) (t : List UInt8) : Option Pr := l.foldl (bestStep t) none
/-- what the longest one is -/
def IsLong (l : Prs) (t : List UInt8) (b : Option Pr) : Prop :=
  match b with
  | none => ∀ q ∈ l, q.1 ≠ [] → q.1.isPrefixOf t = false
  | some p => l.find? (fun q => !q.1.isEmpty && q.1.isPrefixOf t && (q.1.length == p.1.length)) = some p ∧ ∀ q ∈ l, q.1 ≠ [] → q.1.isPrefixOf t = true → q.1.length ≤ p.1.length
theorem isLong_step {l : Prs} {t : List UInt8} {b : Option Pr} (h : IsLong l t b) (p : Pr) : IsLong (l ++ [p]) t (bestStep t b p) := by
  unfold bestStep
  by_cases hc : p.1 ≠ [] ∧ p.1.isPrefixOf t = true ∧ (∀ q, b = some q → q.1.length < p.1.length)
  · rw [if_pos hc]
    obtain ⟨h1, h2, h3⟩ := hc
    refine ⟨?_, fun q hq hne hp => ?_⟩
    · rw [List.find?_append]
      have hno : l.find? (fun q => !q.1.isEmpty && q.1.isPrefixOf t && (q.1.length == p.1.length)) = none := by
        rw [List.find?_eq_none]
        intro q hq hb
        simp only [Bool.and_eq_true, Bool.not_eq_true', List.isEmpty_eq_false_iff, beq_iff_eq] at hb
        cases b with
        | none =>
          have := h q hq hb.1.1
          rw [hb.1.2] at this
          cases this
        | some p0 =>
          have := h.2 q hq hb.1.1 hb.1.2
          have := h3 p0 rfl
          omega
      rw [hno]
      simp [h1, h2]
    · rcases List.mem_append.1 hq with hq | hq
      · cases b with
        | none =>
          have := h q hq hne
          rw [hp] at this
          cases this
        | some p0 =>
          have := h.2 q hq hne hp
          have := h3 p0 rfl
          omega
      · rw [List.mem_singleton.1 hq]; exact Nat.le_refl _
  · rw [if_neg hc]
    cases b with
    | none =>
      intro q hq hne
      rcases List.mem_append.1 hq with hq | hq
      · exact h q hq hne
      · obtain rfl := List.mem_singleton.1 hq
        cases hp : q.1.isPrefixOf t with
        | false => rfl
        | true => exact absurd ⟨hne, hp, fun q h => by cases h⟩ hc
    | some p0 =>
      refine ⟨?_, fun q hq hne hp => ?_⟩
      · rw [List.find?_append, h.1]; rfl
      · rcases List.mem_append.1 hq with hq | hq
        · exact h.2 q hq hne hp
        · obtain rfl := List.mem_singleton.1 hq
          rcases Nat.lt_or_ge p0.1.length q.1.length with hlt | hge
          · exact absurd ⟨hne, hp, fun q' h => by obtain rfl := Option.some.inj h; exact hlt⟩ hc
          · exact hge
theorem isLong_best (t : List UInt8) (l : Prs) : IsLong l t (bestL l t) := by
  have key : ∀ (r l0 : Prs) (b : Option Pr), IsLong l0 t b → IsLong (l0 ++ r) t (r.foldl (bestStep t) b) := by
    intro r
    induction r with
    | nil => intro l0 b h; simpa using h
    | cons p r ih =>
      intro l0 b h
      have := ih (l0 ++ [p]) _ (isLong_step h p)
      simpa [List.append_assoc] using this
  have := key l [] none (fun q hq => by cases hq)
  simpa [bestL] using this
/-- longer old texts first -/
def byLen (l : Prs) : Nat → Prs
  | 0 => l.filter (fun p => p.1.length == 0)
  | m + 1 => l.filter (fun p => p.1.length == m + 1) ++ byLen l m
theorem byLen_mem {l : Prs} {p : Pr} : ∀ {m : Nat}, p ∈ byLen l m → p ∈ l
  | 0, h => (List.mem_filter.1 h).1
  | m + 1, h => by
    rcases List.mem_append.1 h with h | h
    · exact (List.mem_filter.1 h).1
    · exact byLen_mem h
theorem byLen_hit {l : Prs} (hl : SolidL l) (t : List UInt8) : ∀ m : Nat, (∀ q ∈ l, q.1.isPrefixOf t = true → q.1.length ≤ m) → ∀ b, IsLong l t b → (byLen l m).find? (fun p => p.1.isPrefixOf t) = b := by
  intro m
  induction m with
  | zero =>
    intro hm b hb
    cases b with
    | none =>
      rw [List.find?_eq_none]
      intro q hq
      have h1 := byLen_mem hq
      rw [hb q h1 (hl q h1)]
      simp
    | some p =>
      have h1 := List.mem_of_find?_eq_some hb.1
      have h2 := List.find?_some hb.1
      simp only [Bool.and_eq_true] at h2
      have := hm p h1 h2.1.2
      exact absurd (List.eq_nil_of_length_eq_zero (by omega)) (hl p h1)
  | succ m ih =>
    intro hm b hb
    rw [byLen, List.find?_append, List.find?_filter]
    cases hf : l.find? (fun p => decide ((p.1.length == m + 1) = true ∧ p.1.isPrefixOf t = true)) with
    | some p =>
      have h1 := List.mem_of_find?_eq_some hf
      have h2 := List.find?_some hf
      simp only [decide_eq_true_eq, beq_iff_eq] at h2
      cases b with
      | none =>
        have := hb p h1 (hl p h1)
        rw [h2.2] at this
        cases this
      | some q =>
        have h3 := hb.2 p h1 (hl p h1) h2.2
        have h4 := hm q (List.mem_of_find?_eq_some hb.1) (by have := List.find?_some hb.1; simp only [Bool.and_eq_true] at this; exact this.1.2)
        have h5 : q.1.length = m + 1 := by omega
        have h6 : l.find? (fun p => decide ((p.1.length == m + 1) = true ∧ p.1.isPrefixOf t = true)) = l.find? (fun r => !r.1.isEmpty && r.1.isPrefixOf t && (r.1.length == q.1.length)) := by
          apply find_congr
          intro r hr
          have := hl r hr
          rw [h5, Bool.eq_iff_iff]
          simp only [decide_eq_true_eq, beq_iff_eq, Bool.and_eq_true, Bool.not_eq_true', List.isEmpty_eq_false_iff]
          exact ⟨fun h => ⟨⟨this, h.2⟩, h.1⟩, fun h => ⟨h.2, h.1.2⟩⟩
        rw [h6, hb.1] at hf
        obtain rfl := Option.some.inj hf
        rfl
    | none =>
      have h0 := List.find?_eq_none.1 hf
      simp only [decide_eq_true_eq, beq_iff_eq, not_and] at h0
      rw [Option.none_or]
      refine ih (fun q hq hp => ?_) b hb
      have := hm q hq hp
      rcases Nat.lt_or_ge m q.1.length with h | h
      · exact absurd hp (h0 q hq (by omega))
      · exact h
theorem hit_byLen {l : Prs} (hl : SolidL l) (t : List UInt8) (m : Nat) (hm : ∀ q ∈ l, q.1.length ≤ m) : hit (byLen l m) true t = bestL l t := by
  unfold hit
  simp only [Bool.true_or, Bool.true_and]
  exact byLen_hit hl t m (fun q hq _ => hm q hq) _ (isLong_best t l)
/-- a text by the longest old texts, from its beginning on -/
def longR (l : Prs) (t : List UInt8) : List UInt8 :=
  match h : bestL l t with
  | some p => if hp : 0 < p.1.length ∧ p.1.length ≤ t.length then p.2 ++ longR l (t.drop p.1.length) else []
  | none => match t with
    | [] => []
    | c :: r => c :: longR l r
termination_by t.length
decreasing_by
  · simp only [List.length_drop]; omega
  · simp
theorem bestL_some {l : Prs} {t : List UInt8} {p : Pr} (h : bestL l t = some p) : 0 < p.1.length ∧ p.1.length ≤ t.length ∧ p ∈ l ∧ p.1 <+: t := by
  have := isLong_best t l
  rw [h] at this
  have h1 := List.mem_of_find?_eq_some this.1
  have h2 := List.find?_some this.1
  simp only [Bool.and_eq_true, Bool.not_eq_true', List.isEmpty_eq_false_iff, List.isPrefixOf_iff_prefix] at h2
  exact ⟨List.length_pos_iff.2 h2.1.1, h2.1.2.length_le, h1, h2.1.2⟩
theorem longR_hit {l : Prs} {t : List UInt8} {p : Pr} (h : bestL l t = some p) : longR l t = p.2 ++ longR l (t.drop p.1.length) := by
  rw [longR]
  split
  · rename_i q hq
    rw [h] at hq
    obtain rfl := Option.some.inj hq
    obtain ⟨h1, h2, _⟩ := bestL_some h
    rw [dif_pos ⟨h1, h2⟩]
  · rename_i hq
    rw [h] at hq
    cases hq
theorem longR_nil {l : Prs} (h : bestL l [] = none) : longR l [] = [] := by
  rw [longR]
  split
  · rename_i q hq
    rw [h] at hq
    cases hq
  · rfl
theorem longR_cons {l : Prs} {c : UInt8} {r : List UInt8} (h : bestL l (c :: r) = none) : longR l (c :: r) = c :: longR l r := by
  rw [longR]
  split
  · rename_i q hq
    rw [h] at hq
    cases hq
  · rfl
theorem rep_byLen {l : Prs} (hl : SolidL l) (m : Nat) (hm : ∀ q ∈ l, q.1.length ≤ m) : ∀ t, rep (byLen l m) true t = longR l t := by
  have hs : SolidL (byLen l m) := fun p hp => hl p (byLen_mem hp)
  have hh := fun t => hit_byLen hl t m hm
  refine rep_ind hs (P := fun t r => r = longR l t) ?_ (fun t p h ih => ?_) (fun c r h ih => ?_)
  · exact (longR_nil (by rw [← hh]; exact hit_solid_nil hs true)).symm
  · rw [longR_hit (by rw [← hh]; exact h), ih]
  · rw [longR_cons (by rw [← hh]; exact h), ih]

/-- bytes that are written as two bytes, and read back -/
theorem rep_back {l : Prs} (hl : SolidL l) {m : UInt8} {enc : UInt8 → List UInt8}
    (h : ∀ c, (∃ k, enc c = [m, k] ∧ ∀ r, hit l true (m :: k :: r) = some ([m, k], [c])) ∨ (enc c = [c] ∧ ∀ r, hit l true (c :: r) = none)) : ∀ s, rep l true (s.flatMap enc) = s
  | [] => by
    rw [List.flatMap_nil, rep_nil (hit_solid_nil hl true)]
  | c :: s => by
    have ih := rep_back hl h s
    rw [List.flatMap_cons]
    rcases h c with ⟨k, e, hk⟩ | ⟨e, hk⟩
    · rw [e]
      rw [show [m, k] ++ s.flatMap enc = m :: k :: s.flatMap enc from rfl, rep_solid_hit hl (hk _)]
      simp only [List.length_cons, List.length_nil, List.drop_succ_cons, List.drop_zero]
      rw [ih]
      rfl
    · rw [e]
      rw [show [c] ++ s.flatMap enc = c :: s.flatMap enc from rfl, rep_cons (hk _), ih]
end Go.Proofs.Yteajdljmbjdbkaa
