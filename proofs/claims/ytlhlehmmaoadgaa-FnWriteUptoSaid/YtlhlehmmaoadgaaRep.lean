/- Plain: what pairs make of a text, from its beginning on (no program in sight). -/
import Derived.Lib.IndexLaws
namespace Go.Proofs.Ytlhlehmmaoadgaa
open Go.Lib
set_option linter.unusedVariables false

theorem find_congr {α : Type} {p q : α → Bool} : ∀ {l : List α}, (∀ x ∈ l, p x = q x) → l.find? p = l.find? q
  | [], _ => rfl
  | a :: l, h => by
    rw [List.find?_cons, List.find?_cons, h a (by simp), find_congr (l := l) (fun x hx => h x (by simp [hx]))]

abbrev Prs := List (List UInt8 × List UInt8)
/-- the first pair whose old text stands in front of a text; empty ones may be left out -/
def hit (l : Prs) (e : Bool) (t : List UInt8) : Option (List UInt8 × List UInt8) :=
  l.find? fun p => (e || !p.1.isEmpty) && p.1.isPrefixOf t
theorem hit_some {l : Prs} {e : Bool} {t : List UInt8} {p : List UInt8 × List UInt8} (h : hit l e t = some p) : p ∈ l ∧ p.1 <+: t ∧ (e = true ∨ p.1 ≠ []) := by
  have h1 := List.find?_some h
  have h2 := List.mem_of_find?_eq_some h
  simp only [Bool.and_eq_true, Bool.or_eq_true, Bool.not_eq_true', List.isEmpty_eq_false_iff, List.isPrefixOf_iff_prefix] at h1
  exact ⟨h2, h1.2, h1.1⟩
theorem hit_none {l : Prs} {e : Bool} {t : List UInt8} (h : hit l e t = none) : ∀ p ∈ l, (e = true ∨ p.1 ≠ []) → ¬ p.1 <+: t := by
  intro p hp he hpre
  have := List.find?_eq_none.1 h p hp
  apply this
  simp only [Bool.and_eq_true, Bool.or_eq_true, Bool.not_eq_true', List.isEmpty_eq_false_iff, List.isPrefixOf_iff_prefix]
  exact ⟨he, hpre⟩

/-- what pairs make of a text -/
def rep (l : Prs) (e : Bool) (t : List UInt8) : List UInt8 :=
  match h : hit l e t with
  | some p => p.2 ++ rep l (!p.1.isEmpty) (t.drop p.1.length)
  | none => match t with
    | [] => []
    | c :: r => c :: rep l true r
termination_by 2 * t.length + (if e then 1 else 0)
decreasing_by
  · obtain ⟨_, h2, h3⟩ := hit_some h
    have hl := h2.length_le
    by_cases e0 : p.1 = []
    · rcases h3 with rfl | h3
      · simp [e0]
      · exact absurd e0 h3
    · have hp : 0 < p.1.length := List.length_pos_iff.2 e0
      have e1 : (!p.1.isEmpty) = true := by simp [e0]
      rw [e1, List.length_drop]
      simp only [if_true]
      omega
  · simp only [List.length_cons, if_true]
    omega
theorem rep_hit {l : Prs} {e : Bool} {t : List UInt8} {p : List UInt8 × List UInt8} (h : hit l e t = some p) : rep l e t = p.2 ++ rep l (!p.1.isEmpty) (t.drop p.1.length) := by
  rw [rep]
  split
  · rename_i q hq
    rw [h] at hq
    obtain rfl := Option.some.inj hq
    rfl
  · rename_i hq
    rw [h] at hq
    cases hq
theorem rep_nil {l : Prs} {e : Bool} (h : hit l e [] = none) : rep l e [] = [] := by
  rw [rep]
  split
  · rename_i q hq
    rw [h] at hq
    cases hq
  · rfl
theorem rep_cons {l : Prs} {e : Bool} {c : UInt8} {r : List UInt8} (h : hit l e (c :: r) = none) : rep l e (c :: r) = c :: rep l true r := by
  rw [rep]
  split
  · rename_i q hq
    rw [h] at hq
    cases hq
  · rfl

/-- no old text is empty -/
def SolidL (l : Prs) : Prop := ∀ p ∈ l, p.1 ≠ []
theorem hit_solid {l : Prs} (hl : SolidL l) (e : Bool) (t : List UInt8) : hit l e t = hit l true t := by
  unfold hit
  apply find_congr
  intro p hp
  have := hl p hp
  simp [this]
theorem hit_solid_nil {l : Prs} (hl : SolidL l) (e : Bool) : hit l e [] = none := by
  cases h : hit l e [] with
  | none => rfl
  | some p =>
    obtain ⟨h1, h2, _⟩ := hit_some h
    exact absurd (List.prefix_nil.1 h2) (hl p h1)
/-- induction along a text, pairs without empty old texts -/
theorem rep_ind {l : Prs} (hl : SolidL l) {P : List UInt8 → List UInt8 → Prop} (h0 : P [] [])
    (h1 : ∀ t p, hit l true t = some p → P (t.drop p.1.length) (rep l true (t.drop p.1.length)) → P t (p.2 ++ rep l true (t.drop p.1.length)))
    (h2 : ∀ c r, hit l true (c :: r) = none → P r (rep l true r) → P (c :: r) (c :: rep l true r)) : ∀ t, P t (rep l true t) := by
  intro t
  generalize hn : t.length = n
  induction n using Nat.strongRecOn generalizing t with
  | ind n ih =>
    cases hh : hit l true t with
    | some p =>
      rw [rep_hit hh]
      obtain ⟨m1, m2, _⟩ := hit_some hh
      have hne := hl p m1
      have e1 : (!p.1.isEmpty) = true := by simp [hne]
      rw [e1]
      have hp : 0 < p.1.length := List.length_pos_iff.2 hne
      have hle := m2.length_le
      exact h1 t p hh (ih _ (by rw [List.length_drop]; omega) _ rfl)
    | none =>
      cases t with
      | nil => rw [rep_nil hh]; exact h0
      | cons c r =>
        rw [rep_cons hh]
        simp only [List.length_cons] at hn
        exact h2 c r hh (ih _ (by omega) _ rfl)
theorem rep_solid {l : Prs} (hl : SolidL l) (e : Bool) (t : List UInt8) : rep l e t = rep l true t := by
  cases hh : hit l true t with
  | some p => rw [rep_hit hh, rep_hit (e := e) (by rw [hit_solid hl]; exact hh)]
  | none =>
    have hh' : hit l e t = none := by rw [hit_solid hl]; exact hh
    cases t with
    | nil => rw [rep_nil hh, rep_nil hh']
    | cons c r => rw [rep_cons hh, rep_cons hh']
theorem rep_solid_hit {l : Prs} (hl : SolidL l) {t : List UInt8} {p : List UInt8 × List UInt8} (h : hit l true t = some p) : rep l true t = p.2 ++ rep l true (t.drop p.1.length) := by
  rw [rep_hit h, rep_solid hl]

/-- texts that are replaced by themselves -/
theorem rep_kept {l : Prs} (hl : SolidL l) (hk : ∀ p ∈ l, p.2 = p.1) : ∀ t, rep l true t = t :=
  rep_ind hl (P := fun t r => r = t) rfl
    (fun t p h ih => by
      obtain ⟨m1, ⟨q, rfl⟩, _⟩ := hit_some h
      rw [ih, hk p m1, List.drop_left])
    (fun c r _ ih => by rw [ih])
/-- an old text of the first pair so many times -/
theorem rep_times {l : Prs} {o n : List UInt8} (hl : SolidL ((o, n) :: l)) : ∀ k, rep ((o, n) :: l) true (List.replicate k o).flatten = (List.replicate k n).flatten
  | 0 => by
    rw [List.replicate_zero, List.flatten_nil, rep_nil (hit_solid_nil hl true)]
    rfl
  | k + 1 => by
    rw [List.replicate_succ, List.flatten_cons, List.replicate_succ, List.flatten_cons]
    have hh : hit ((o, n) :: l) true (o ++ (List.replicate k o).flatten) = some (o, n) := by
      unfold hit
      rw [List.find?_cons_of_pos]
      simp only [Bool.true_or, Bool.true_and, List.isPrefixOf_iff_prefix]
      exact List.prefix_append _ _
    rw [rep_solid_hit hl hh, List.drop_left, rep_times hl k]
/-- pairs that hit alike make the same -/
theorem rep_congr {l l' : Prs} (hl : SolidL l) (hl' : SolidL l') (h : ∀ t, hit l true t = hit l' true t) : ∀ t, rep l true t = rep l' true t :=
  rep_ind hl (P := fun t r => r = rep l' true t) (rep_nil (hit_solid_nil hl' true)).symm
    (fun t p hh ih => by rw [rep_solid_hit hl' (by rw [← h]; exact hh), ih])
    (fun c r hh ih => by rw [rep_cons (by rw [← h]; exact hh), ih])
/-- a pair behind one with which its old text begins -/
theorem hit_behind {l : Prs} {o n : List UInt8} (hm : (o, n) ∈ l) (more new t : List UInt8) : hit (l ++ [(o ++ more, new)]) true t = hit l true t := by
  cases hh : hit l true t with
  | some p =>
    unfold hit at hh ⊢
    rw [List.find?_append, hh]
    rfl
  | none =>
    have hno := hit_none hh _ hm (.inl rfl)
    unfold hit at hh ⊢
    rw [List.find?_append, hh]
    have : (o ++ more).isPrefixOf t = false := by
      cases hb : (o ++ more).isPrefixOf t with
      | false => rfl
      | true => exact absurd ((List.prefix_append o more).trans (List.isPrefixOf_iff_prefix.1 hb)) hno
    simp [this]
theorem rep_behind {l : Prs} (hl : SolidL l) {o n : List UInt8} (hm : (o, n) ∈ l) (more new t : List UInt8) : rep (l ++ [(o ++ more, new)]) true t = rep l true t := by
  have hl' : SolidL (l ++ [(o ++ more, new)]) := fun p hp => by
    rcases List.mem_append.1 hp with h | h
    · exact hl p h
    · rcases List.mem_singleton.1 h with rfl
      have := hl _ hm
      simp_all
  exact (rep_congr hl hl' (fun t => (hit_behind hm more new t).symm) t).symm
/-- at a byte that no old text has -/
theorem hit_cut {l : Prs} {c : UInt8} (hc : ∀ p ∈ l, c ∉ p.1) (s t : List UInt8) : hit l true (s ++ c :: t) = hit l true s := by
  unfold hit
  apply find_congr
  intro p hp
  have hn := hc p hp
  simp only [Bool.true_or, Bool.true_and]
  rw [Bool.eq_iff_iff, List.isPrefixOf_iff_prefix, List.isPrefixOf_iff_prefix]
  constructor
  · intro h
    by_cases hle : p.1.length ≤ s.length
    · exact List.prefix_of_prefix_length_le h (List.prefix_append _ _) hle
    · exfalso
      apply hn
      have h2 : s ++ [c] <+: p.1 := List.prefix_of_prefix_length_le (by rw [show s ++ c :: t = (s ++ [c]) ++ t by simp]; exact List.prefix_append _ _) h (by simp; omega)
      exact h2.subset (by simp)
  · intro h
    exact h.trans (List.prefix_append _ _)
theorem rep_cut {l : Prs} (hl : SolidL l) {c : UInt8} (hc : ∀ p ∈ l, c ∉ p.1) (t : List UInt8) : ∀ s, rep l true (s ++ c :: t) = rep l true s ++ c :: rep l true t :=
  rep_ind hl (P := fun s r => rep l true (s ++ c :: t) = r ++ c :: rep l true t)
    (by
      rw [List.nil_append, rep_cons]
      · rfl
      · rw [← List.nil_append (c :: t), hit_cut hc]; exact hit_solid_nil hl true)
    (fun s p hh ih => by
      obtain ⟨_, hp, _⟩ := hit_some hh
      rw [rep_solid_hit hl (by rw [hit_cut hc]; exact hh), List.drop_append_of_le_length hp.length_le, ih, List.append_assoc])
    (fun a r hh ih => by
      rw [List.cons_append, rep_cons (by rw [← List.cons_append, hit_cut hc]; exact hh), ih]; rfl)

/-- old texts of a single byte: what a byte becomes -/
def tab (l : Prs) (c : UInt8) : List UInt8 := match l.find? (fun p => p.1 == [c]) with | some p => p.2 | none => [c]
theorem hit_byte {l : Prs} (h1 : ∀ p ∈ l, p.1.length = 1) (c : UInt8) (r : List UInt8) : hit l true (c :: r) = l.find? (fun p => p.1 == [c]) := by
  unfold hit
  apply find_congr
  intro p hp
  have := h1 p hp
  obtain ⟨a, ha⟩ := List.length_eq_one_iff.1 this
  simp [ha, List.isPrefixOf]
theorem solid_bytes {l : Prs} (h1 : ∀ p ∈ l, p.1.length = 1) : SolidL l := fun p hp e => by
  have := h1 p hp
  rw [e] at this
  cases this
theorem rep_bytes {l : Prs} (h1 : ∀ p ∈ l, p.1.length = 1) : ∀ t, rep l true t = t.flatMap (tab l)
  | [] => rep_nil (hit_solid_nil (solid_bytes h1) true)
  | c :: r => by
    have ih := rep_bytes h1 r
    rw [List.flatMap_cons, ← ih]
    unfold tab
    have hb := hit_byte h1 c r
    cases hf : l.find? (fun p => p.1 == [c]) with
    | none => rw [rep_cons (by rw [hb]; exact hf)]; rfl
    | some p =>
      have e := List.find?_some hf
      have e1 : p.1 = [c] := by simpa using e
      rw [rep_solid_hit (solid_bytes h1) (by rw [hb]; exact hf), e1]
      rfl
end Go.Proofs.Ytlhlehmmaoadgaa
