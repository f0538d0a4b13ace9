/- Plain: the key in front of a text whose priority is the highest. -/
import Derived.Test.YtlhlehmmaoadgaaGenPlain
namespace Go.Proofs.Ytlhlehmmaoadgaa
open Go.RowKit Go.Lib
set_option linter.unusedVariables false

/-- the better one of what was found and what stands at a length -/
def better (b : Option (Nat × ByteArray × Nat)) (x : Option (Nat × ByteArray)) (n : Nat) : Option (Nat × ByteArray × Nat) :=
  match x with
  | none => b
  | some (p, v) => match b with
    | none => some (p, v, n)
    | some (q, v', n') => if q < p then some (p, v, n) else some (q, v', n')
/-- what a key of so many bytes stands for; the empty one may be left out -/
def candAt (m : Keys) (s : List UInt8) (ign : Bool) (n : Nat) : Option (Nat × ByteArray) := if ign = true ∧ n = 0 then none else m (s.take n)
/-- the best one among the keys of fewer than n bytes -/
def bestTo (m : Keys) (s : List UInt8) (ign : Bool) : Nat → Option (Nat × ByteArray × Nat)
  | 0 => none
  | n + 1 => better (bestTo m s ign n) (candAt m s ign n) n
def bestOf (m : Keys) (s : List UInt8) (ign : Bool) : Option (Nat × ByteArray × Nat) := bestTo m s ign (s.length + 1)
theorem bestTo_skip (m : Keys) (s : List UInt8) (ign : Bool) (n : Nat) : ∀ d, (∀ j, n ≤ j → j < n + d → candAt m s ign j = none) → bestTo m s ign (n + d) = bestTo m s ign n
  | 0, _ => rfl
  | d + 1, h => by
    rw [← Nat.add_assoc, bestTo, h (n + d) (by omega) (by omega)]
    exact bestTo_skip m s ign n d (fun j h1 h2 => h j h1 (by omega))
/-- no key stands for a priority of 0 -/
def Pos (m : Keys) : Prop := ∀ k p v, m k = some (p, v) → 0 < p
theorem keysTo_pos (l : List ByteArray) : ∀ n, 2 * n ≤ l.length → Pos (keysTo l n)
  | 0, _ => fun k p v h => by cases h
  | n + 1, hn => fun k p v h => by
    unfold keysTo addK at h
    split at h
    · split at h
      · injection h with h; injection h with h1 h2; omega
      · rename_i y hy
        injection h with h; subst h
        exact keysTo_pos l n (by omega) _ p v hy
    · exact keysTo_pos l n (by omega) k p v h

theorem keysTo_ne (l : List ByteArray) : ∀ n j, j < n → ∀ k, (l.getD (2 * j) ⟨#[]⟩).data.toList = k → keysTo l n k ≠ none
  | 0, j, h, _, _ => by omega
  | n + 1, j, h, k, hk => by
    unfold keysTo addK
    by_cases e : k = (l.getD (2 * n) ⟨#[]⟩).data.toList
    · rw [if_pos e]
      split <;> simp
    · rw [if_neg e]
      by_cases ej : j = n
      · subst ej; exact absurd hk.symm e
      · exact keysTo_ne l n j (by omega) k hk
/-- what the first pairs stand for at a key -/
theorem keysTo_some (l : List ByteArray) : ∀ n, 2 * n ≤ l.length → ∀ k p v, keysTo l n k = some (p, v) → ∃ i, i < n ∧ p = l.length - 2 * i ∧ v = l.getD (2 * i + 1) ⟨#[]⟩ ∧ k = (l.getD (2 * i) ⟨#[]⟩).data.toList ∧ ∀ j, j < i → (l.getD (2 * j) ⟨#[]⟩).data.toList ≠ k
  | 0, _, k, p, v, h => by cases h
  | n + 1, hn, k, p, v, h => by
    have ih := keysTo_some l n (by omega)
    unfold keysTo addK at h
    by_cases e : k = (l.getD (2 * n) ⟨#[]⟩).data.toList
    · rw [if_pos e] at h
      cases hm : keysTo l n (l.getD (2 * n) ⟨#[]⟩).data.toList with
      | none =>
        rw [hm] at h
        injection h with h; injection h with h1 h2
        refine ⟨n, by omega, h1.symm, h2.symm, e, fun j hj hjk => ?_⟩
        -- an earlier pair with this key would stand for it
        have : keysTo l n k ≠ none := keysTo_ne l n j hj k hjk
        rw [e] at this
        exact this hm
      | some y =>
        rw [hm] at h
        injection h with h
        subst h
        obtain ⟨i, h1, h2⟩ := ih _ p v (e ▸ hm : keysTo l n k = some (p, v))
        exact ⟨i, by omega, h2⟩
    · rw [if_neg e] at h
      obtain ⟨i, h1, h2⟩ := ih k p v h
      exact ⟨i, by omega, h2⟩
theorem keysTo_has (l : List ByteArray) (n j : Nat) (hj : j < n) : keysTo l n (l.getD (2 * j) ⟨#[]⟩).data.toList ≠ none := keysTo_ne l n j hj _ rfl

/-- the first pair whose key stands in front of a text -/
def FirstAt (l : List ByteArray) (n : Nat) (s : List UInt8) (ign : Bool) (i : Nat) : Prop :=
  i < n ∧ (l.getD (2 * i) ⟨#[]⟩).data.toList <+: s ∧ ¬ (ign = true ∧ (l.getD (2 * i) ⟨#[]⟩).data.toList = []) ∧
    ∀ j, j < i → ¬ ((l.getD (2 * j) ⟨#[]⟩).data.toList <+: s ∧ ¬ (ign = true ∧ (l.getD (2 * j) ⟨#[]⟩).data.toList = []))
def NoneAt (l : List ByteArray) (n : Nat) (s : List UInt8) (ign : Bool) : Prop :=
  ∀ j, j < n → ¬ ((l.getD (2 * j) ⟨#[]⟩).data.toList <+: s ∧ ¬ (ign = true ∧ (l.getD (2 * j) ⟨#[]⟩).data.toList = []))
theorem cand_first (l : List ByteArray) (n : Nat) (hn : 2 * n ≤ l.length) (s : List UInt8) (ign : Bool) (k : Nat) (hk : k ≤ s.length) (p : Nat) (v : ByteArray) (h : candAt (keysTo l n) s ign k = some (p, v)) :
    ∃ i, i < n ∧ p = l.length - 2 * i ∧ v = l.getD (2 * i + 1) ⟨#[]⟩ ∧ (l.getD (2 * i) ⟨#[]⟩).data.toList = s.take k ∧ ¬ (ign = true ∧ (l.getD (2 * i) ⟨#[]⟩).data.toList = []) := by
  unfold candAt at h
  by_cases e : ign = true ∧ k = 0
  · rw [if_pos e] at h; cases h
  · rw [if_neg e] at h
    obtain ⟨i, h1, h2, h3, h4, _⟩ := keysTo_some l n hn _ p v h
    refine ⟨i, h1, h2, h3, h4.symm, fun h5 => e ⟨h5.1, ?_⟩⟩
    have := congrArg List.length (h4.trans h5.2)
    rw [List.length_take, List.length_nil] at this
    omega
/-- what the search of the trie finds is the first pair -/
theorem best_first (l : List ByteArray) (n : Nat) (hn : 2 * n ≤ l.length) (s : List UInt8) (ign : Bool) (i : Nat) (hi : FirstAt l n s ign i) :
    bestOf (keysTo l n) s ign = some (l.length - 2 * i, l.getD (2 * i + 1) ⟨#[]⟩, (l.getD (2 * i) ⟨#[]⟩).size) := by
  obtain ⟨h1, h2, h3, h4⟩ := hi
  have hsz : (l.getD (2 * i) ⟨#[]⟩).data.toList.length = (l.getD (2 * i) ⟨#[]⟩).size := by simp
  have hlen := h2.length_le
  rw [hsz] at hlen
  have htk : s.take (l.getD (2 * i) ⟨#[]⟩).size = (l.getD (2 * i) ⟨#[]⟩).data.toList := by
    obtain ⟨t, ht⟩ := h2
    rw [← ht, List.take_left' hsz]
  -- the candidate at the first pair's own length
  have hc : candAt (keysTo l n) s ign (l.getD (2 * i) ⟨#[]⟩).size = some (l.length - 2 * i, l.getD (2 * i + 1) ⟨#[]⟩) := by
    unfold candAt
    rw [if_neg (fun h => h3 ⟨h.1, by apply List.eq_nil_of_length_eq_zero; rw [hsz]; exact h.2⟩), htk]
    cases hm : keysTo l n (l.getD (2 * i) ⟨#[]⟩).data.toList with
    | none => exact absurd hm (keysTo_has l n i h1)
    | some y =>
      obtain ⟨p, v⟩ := y
      obtain ⟨i', g1, g2, g3, g4, g5⟩ := keysTo_some l n hn _ p v hm
      have : i' = i := by
        rcases Nat.lt_trichotomy i' i with h | h | h
        · exact absurd ⟨g4 ▸ h2, g4 ▸ h3⟩ (h4 i' h)
        · exact h
        · exact absurd rfl (g5 i h)
      subst this
      rw [g2, g3]
  -- no candidate is better, and of the lengths behind none is as good
  have hle : ∀ k, k ≤ s.length → ∀ p v, candAt (keysTo l n) s ign k = some (p, v) → p ≤ l.length - 2 * i ∧ (k ≠ (l.getD (2 * i) ⟨#[]⟩).size → p < l.length - 2 * i) := fun k hk p v h => by
    obtain ⟨i', g1, g2, g3, g4, g5⟩ := cand_first l n hn s ign k hk p v h
    have hge : i ≤ i' := by
      rcases Nat.lt_or_ge i' i with h' | h'
      · exact absurd ⟨g4 ▸ List.take_prefix _ _, g5⟩ (h4 i' h')
      · exact h'
    refine ⟨by omega, fun hne => ?_⟩
    have : i' ≠ i := fun e => hne (by
      subst e
      have := congrArg List.length g4
      rw [hsz, List.length_take] at this
      omega)
    omega
  have inv : ∀ k, k ≤ s.length + 1 → (k ≤ (l.getD (2 * i) ⟨#[]⟩).size → ∀ p v n', bestTo (keysTo l n) s ign k = some (p, v, n') → p < l.length - 2 * i) ∧
      ((l.getD (2 * i) ⟨#[]⟩).size < k → bestTo (keysTo l n) s ign k = some (l.length - 2 * i, l.getD (2 * i + 1) ⟨#[]⟩, (l.getD (2 * i) ⟨#[]⟩).size)) := by
    intro k
    induction k with
    | zero => exact fun _ => ⟨fun _ p v n' h => (by cases h), fun h => by omega⟩
    | succ k ih =>
      intro hk
      obtain ⟨ih1, ih2⟩ := ih (by omega)
      rw [bestTo]
      by_cases e : k = (l.getD (2 * i) ⟨#[]⟩).size
      · refine ⟨fun h => by omega, fun _ => ?_⟩
        rw [e, hc]
        rw [e] at ih1
        cases hb : bestTo (keysTo l n) s ign (l.getD (2 * i) ⟨#[]⟩).size with
        | none => rfl
        | some y =>
          obtain ⟨q, v', n'⟩ := y
          have := ih1 (Nat.le_refl _) q v' n' hb
          simp only [better]
          rw [if_pos this]
      · constructor
        · intro hk2 p v n' h
          cases hcd : candAt (keysTo l n) s ign k with
          | none => rw [hcd] at h; exact ih1 (by omega) p v n' h
          | some y =>
            obtain ⟨q, v'⟩ := y
            have hq := (hle k (by omega) q v' hcd).2 e
            rw [hcd] at h
            cases hb : bestTo (keysTo l n) s ign k with
            | none => rw [hb] at h; simp only [better] at h; injection h with h; injection h with h5 h6; omega
            | some z =>
              obtain ⟨q2, v2, n2⟩ := z
              have hq2 := ih1 (by omega) q2 v2 n2 hb
              rw [hb] at h
              simp only [better] at h
              split at h
              · injection h with h; injection h with h5 h6; omega
              · injection h with h; injection h with h5 h6; omega
        · intro hk2
          rw [ih2 (by omega)]
          cases hcd : candAt (keysTo l n) s ign k with
          | none => rfl
          | some y =>
            obtain ⟨q, v'⟩ := y
            have hq := (hle k (by omega) q v' hcd).1
            simp only [better]
            rw [if_neg (by omega)]
  exact (inv (s.length + 1) (Nat.le_refl _)).2 (by omega)
theorem best_none (l : List ByteArray) (n : Nat) (hn : 2 * n ≤ l.length) (s : List UInt8) (ign : Bool) (h : NoneAt l n s ign) : bestOf (keysTo l n) s ign = none := by
  have := bestTo_skip (keysTo l n) s ign 0 (s.length + 1) (fun j _ hj => by
    cases hc : candAt (keysTo l n) s ign j with
    | none => rfl
    | some y =>
      obtain ⟨p, v⟩ := y
      obtain ⟨i, g1, g2, g3, g4, g5⟩ := cand_first l n hn s ign j (by omega) p v hc
      exact absurd ⟨g4 ▸ List.take_prefix _ _, g5⟩ (h i g1))
  rw [Nat.zero_add] at this
  exact this
/-- there is a first one, or none -/
theorem first_or_none (l : List ByteArray) (n : Nat) (s : List UInt8) (ign : Bool) : (∃ i, FirstAt l n s ign i) ∨ NoneAt l n s ign := by
  have key : ∀ m, m ≤ n → (∃ i, FirstAt l n s ign i) ∨ ∀ j, j < m → ¬ ((l.getD (2 * j) ⟨#[]⟩).data.toList <+: s ∧ ¬ (ign = true ∧ (l.getD (2 * j) ⟨#[]⟩).data.toList = [])) := by
    intro m
    induction m with
    | zero => exact fun _ => .inr (fun j h => by omega)
    | succ m ih =>
      intro hm
      rcases ih (by omega) with h | h
      · exact .inl h
      · by_cases hc : (l.getD (2 * m) ⟨#[]⟩).data.toList <+: s ∧ ¬ (ign = true ∧ (l.getD (2 * m) ⟨#[]⟩).data.toList = [])
        · exact .inl ⟨m, by omega, hc.1, hc.2, h⟩
        · refine .inr (fun j hj => ?_)
          by_cases e : j = m
          · subst e; exact hc
          · exact h j (by omega)
  rcases key n (Nat.le_refl _) with h | h
  · exact .inl h
  · exact .inr h
end Go.Proofs.Ytlhlehmmaoadgaa
