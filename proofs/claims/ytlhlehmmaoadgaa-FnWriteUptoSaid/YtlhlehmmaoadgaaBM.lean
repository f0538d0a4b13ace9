/- The plain part of Boyer and Moore's finder: the table of suffixes skips no place, nor does that of bytes; the length of the longest common suffix. No program in sight. -/
namespace Go.Proofs.Ytlhlehmmaoadgaa.BM

/-- a shift by d is possible where the text differs from the pattern f (of m bytes) at j and is the same behind it -/
def compat (f : Nat → UInt8) (m j d : Nat) : Prop := (j < d ∨ f (j - d) ≠ f j) ∧ ∀ k, j < k → k < m → (k < d ∨ f (k - d) = f k)
/-- the pattern from t on is a beginning of it -/
def isPre (f : Nat → UInt8) (m t : Nat) : Prop := ∀ k, t ≤ k → k < m → f (k - t) = f k
/-- far is a safe skip at j -/
def Good (f : Nat → UInt8) (m j far : Nat) : Prop := 1 ≤ far ∧ ∀ d, 1 ≤ d → d < far → ¬ compat f m j d

/-- behind the first pass -/
def First (f : Nat → UInt8) (m j far : Nat) : Prop := j + 1 ≤ far ∧ far ≤ m ∧ ∀ t, j + 1 ≤ t → isPre f m t → far ≤ t

theorem first_hit {f : Nat → UInt8} {m j : Nat} (hj : j < m) : First f m j (j + 1) := ⟨Nat.le_refl _, hj, fun _ h _ => h⟩
theorem first_miss {f : Nat → UInt8} {m j far : Nat} (h : First f m (j + 1) far) (hn : ¬ isPre f m (j + 1)) : First f m j far :=
  ⟨by have := h.1; omega, h.2.1, fun t ht hp => by
    by_cases e : t = j + 1
    · subst e; exact absurd hp hn
    · exact h.2.2 t (by omega) hp⟩
theorem pre_end (f : Nat → UInt8) (m : Nat) : isPre f m m := fun k h1 h2 => by omega

/-- in the second pass, n rounds done -/
def Inv (f : Nat → UInt8) (m n : Nat) (far : Nat → Nat) : Prop :=
  ∀ j, j < m → 1 ≤ far j ∧ (∀ t, j + 1 ≤ t → t ≤ m → isPre f m t → far j ≤ t) ∧ ∀ d, m < d + n + 1 → d ≤ j → compat f m j d → far j ≤ d

theorem inv_zero {f : Nat → UInt8} {m : Nat} {far : Nat → Nat} (h : ∀ j, j < m → First f m j (far j)) : Inv f m 0 far := fun j hj =>
  ⟨by have := (h j hj).1; omega, fun t h1 _ h3 => (h j hj).2.2 t h1 h3, fun d h1 h2 => by omega⟩

/-- L is the length of the longest common suffix of the pattern and of its places 1 to n -/
def Lcs (f : Nat → UInt8) (m n L : Nat) : Prop := L ≤ n ∧ (∀ x, x < L → f (m - 1 - x) = f (n - x)) ∧ (L = n ∨ f (m - 1 - L) ≠ f (n - L))

theorem lcs_of_compat {f : Nat → UInt8} {m n L j : Nat} (hL : Lcs f m n L) (hn : n + 1 < m) (hj : j < m) (hd : m - 1 - n ≤ j) (hc : compat f m j (m - 1 - n)) : j = m - 1 - L := by
  obtain ⟨h1, h2, h3⟩ := hL
  obtain ⟨hc1, hc2⟩ := hc
  have c1 : f (j - (m - 1 - n)) ≠ f j := by
    rcases hc1 with h | h
    · omega
    · exact h
  rcases Nat.lt_trichotomy L (m - 1 - j) with h | h | h
  · -- L too small
    exfalso
    rcases h3 with e | e
    · omega
    · apply e
      have := hc2 (m - 1 - L) (by omega) (by omega)
      rcases this with h' | h'
      · omega
      · rw [← h']; congr 1; omega
  · omega
  · exfalso
    have := h2 (m - 1 - j) h
    apply c1
    rw [show m - 1 - (m - 1 - j) = j by omega] at this
    rw [this]; congr 1; omega

theorem inv_hit {f : Nat → UInt8} {m n L : Nat} {far : Nat → Nat} (h : Inv f m n far) (hn : n + 1 < m) (hL : Lcs f m n L) :
    Inv f m (n + 1) (fun j => if j = m - 1 - L then m - 1 - n else far j) := fun j hj => by
  obtain ⟨a, b, c⟩ := h j hj
  have l1 := hL.1
  by_cases e : j = m - 1 - L
  · simp only [if_pos e]
    exact ⟨by omega, fun t h1 _ _ => by omega, fun d h1 h2 _ => by omega⟩
  · simp only [if_neg e]
    refine ⟨a, b, fun d h1 h2 h3 => ?_⟩
    by_cases ed : d = m - 1 - n
    · subst ed
      exact absurd (lcs_of_compat hL hn hj h2 h3) e
    · exact c d (by omega) h2 h3

theorem inv_miss {f : Nat → UInt8} {m n L : Nat} {far : Nat → Nat} (h : Inv f m n far) (hn : n + 1 < m) (hL : Lcs f m n L) (he : f (n - L) = f (m - 1 - L)) :
    Inv f m (n + 1) far := fun j hj => by
  obtain ⟨a, b, c⟩ := h j hj
  refine ⟨a, b, fun d h1 h2 h3 => ?_⟩
  by_cases ed : d = m - 1 - n
  · subst ed
    have ej := lcs_of_compat hL hn hj h2 h3
    have l1 := hL.1
    exfalso
    rcases h3.1 with h | h
    · omega
    · apply h
      rw [ej, ← he]; congr 1; omega
  · exact c d (by omega) h2 h3

theorem good_of_inv {f : Nat → UInt8} {m : Nat} {far : Nat → Nat} (hm : 1 ≤ m) (h : Inv f m (m - 1) far) (j : Nat) (hj : j < m) : Good f m j (far j) := by
  obtain ⟨a, b, c⟩ := h j hj
  refine ⟨a, fun d h1 h2 h3 => ?_⟩
  by_cases hd : d ≤ j
  · have := c d (by omega) hd h3
    omega
  · by_cases hdm : d ≤ m
    · have := b d (by omega) hdm (fun k k1 k2 => by
        rcases h3.2 k (by omega) k2 with h | h
        · omega
        · exact h)
      omega
    · have := b m (by omega) (Nat.le_refl _) (pre_end f m)
      omega

/-! ### The search -/
/-- the pattern stands in the text g (of n bytes) at p -/
def At (f : Nat → UInt8) (m : Nat) (g : Nat → UInt8) (n p : Nat) : Prop := p + m ≤ n ∧ ∀ k, k < m → g (p + k) = f k

/-- the skip by suffixes: the text differs at j and is the same behind -/
theorem skip_good {f : Nat → UInt8} {m : Nat} {g : Nat → UInt8} {n p j far : Nat} (hg : Good f m j far) (hj : j < m) (hne : g (p + j) ≠ f j) (hs : ∀ k, j < k → k < m → g (p + k) = f k) (d : Nat) (h1 : 1 ≤ d) (h2 : d < far) : ¬ At f m g n (p + d) := by
  intro ⟨_, ha⟩
  apply hg.2 d h1 h2
  refine ⟨?_, fun k k1 k2 => ?_⟩
  · by_cases hjd : j < d
    · exact .inl hjd
    · right
      have := ha (j - d) (by omega)
      rw [show p + d + (j - d) = p + j by omega] at this
      rw [← this]; exact hne
  · by_cases hkd : k < d
    · exact .inl hkd
    · right
      have := ha (k - d) (by omega)
      rw [show p + d + (k - d) = p + k by omega] at this
      rw [← this]; exact hs k k1 k2

/-- bad c is the distance from the pattern's end to the last place of c ahead of it, or m -/
def Bad (f : Nat → UInt8) (m : Nat) (bad : UInt8 → Nat) : Prop := ∀ c, bad c ≤ m ∧ ∀ k, k + 1 < m → m < k + 1 + bad c → f k ≠ c

theorem skip_bad {f : Nat → UInt8} {m : Nat} {g : Nat → UInt8} {n p j : Nat} {bad : UInt8 → Nat} (hb : Bad f m bad) (hj : j < m) (d : Nat) (h1 : 1 ≤ d) (h2 : d + (m - 1 - j) < bad (g (p + j))) : ¬ At f m g n (p + d) := by
  intro ⟨_, ha⟩
  obtain ⟨b1, b2⟩ := hb (g (p + j))
  by_cases hjd : j < d
  · omega
  · have := ha (j - d) (by omega)
    rw [show p + d + (j - d) = p + j by omega] at this
    exact b2 (j - d) (by omega) (by omega) this.symm

end Go.Proofs.Ytlhlehmmaoadgaa.BM
