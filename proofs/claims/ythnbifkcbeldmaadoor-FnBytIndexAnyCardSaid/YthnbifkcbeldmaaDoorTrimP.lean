/- Trimming by code points at both ends of a list of bytes. Plain. -/
import Derived.Test.YthnbifkcbeldmaaDoorSegs
namespace Go.Proofs.YthnbifkcbeldmaaDoor
open Go.Lib
set_option linter.unusedVariables false

/-- the code points ahead, as long as they are such -/
def leftP (p : Nat → Bool) (l : List UInt8) : Nat → Nat → Nat
  | 0, i => i
  | f + 1, i => if i < l.length ∧ p (decodeL (l.drop i)).1 = true then leftP p l f (i + (decodeL (l.drop i)).2) else i
def rightP (p : Nat → Bool) (l : List UInt8) : Nat → Nat → Nat
  | 0, i => i
  | f + 1, i => if 0 < i ∧ p (decodeLastL (l.take i)).1 = true then rightP p l f (i - (decodeLastL (l.take i)).2) else i
def Left (p : Nat → Bool) (l : List UInt8) : Nat := leftP p l l.length 0
def Right (p : Nat → Bool) (l : List UInt8) : Nat := rightP p l l.length l.length
theorem leftP_spec (p : Nat → Bool) (l : List UInt8) : ∀ (f i : Nat), St l i → l.length ≤ i + f →
    St l (leftP p l f i) ∧ i ≤ leftP p l f i ∧ (∀ j, St l j → i ≤ j → j < leftP p l f i → p (rn l j) = true) ∧ (leftP p l f i < l.length → p (rn l (leftP p l f i)) = false)
  | 0, i, hs, hf => ⟨hs, Nat.le_refl _, fun j _ h1 h2 => by simp only [leftP] at h2; omega, fun h => by simp only [leftP] at h; omega⟩
  | f + 1, i, hs, hf => by
    rw [leftP]
    by_cases hc : i < l.length ∧ p (decodeL (l.drop i)).1 = true
    · rw [if_pos hc]
      have hw := wd_le l i hc.1
      obtain ⟨h1, h2, h3, h4⟩ := leftP_spec p l f (i + wd l i) (hs.next hc.1) (by omega)
      refine ⟨h1, Nat.le_trans (Nat.le_add_right _ _) h2, fun j hj h5 h6 => ?_, h4⟩
      by_cases e : j = i
      · subst e; exact hc.2
      · exact h3 j hj (hs.chain hj (by omega)) h6
    · rw [if_neg hc]
      refine ⟨hs, Nat.le_refl _, fun j _ h1 h2 => by omega, fun h => ?_⟩
      cases hp : p (rn l i) with
      | false => rfl
      | true => exact absurd ⟨h, hp⟩ hc
theorem rightP_spec (p : Nat → Bool) (l : List UInt8) : ∀ (f i : Nat), St l i → i ≤ f →
    St l (rightP p l f i) ∧ rightP p l f i ≤ i ∧ (∀ j, St l j → rightP p l f i ≤ j → j < i → p (rn l j) = true) ∧
      (0 < rightP p l f i → ∃ j, St l j ∧ j < l.length ∧ j + wd l j = rightP p l f i ∧ p (rn l j) = false)
  | 0, i, hs, hf => ⟨hs, Nat.le_refl _, fun j _ h1 h2 => by omega, fun h => by simp only [rightP] at h; omega⟩
  | f + 1, i, hs, hf => by
    rw [rightP]
    by_cases h0 : 0 < i
    · obtain ⟨j, hj, hjl, hji, hw⟩ := hs.pred h0
      have hlast := hj.last hjl
      rw [hw] at hlast
      by_cases hp : p (decodeLastL (l.take i)).1 = true
      · rw [if_pos ⟨h0, hp⟩]
        have e : i - (decodeLastL (l.take i)).2 = j := by rw [hlast]; unfold wd at hw; omega
        rw [e]
        obtain ⟨h1, h2, h3, h4⟩ := rightP_spec p l f j hj (by omega)
        refine ⟨h1, by omega, fun k hk h5 h6 => ?_, h4⟩
        by_cases e2 : k < j
        · exact h3 k hk h5 e2
        · have : k = j := by
            apply Classical.byContradiction
            intro hne
            have := hj.chain hk (by omega)
            omega
          subst this
          unfold rn
          rw [← hlast]
          exact hp
      · rw [if_neg (fun h => hp h.2)]
        refine ⟨hs, Nat.le_refl _, fun k _ h1 h2 => by omega, fun _ => ⟨j, hj, hjl, hw, ?_⟩⟩
        unfold rn
        rw [← hlast]
        exact eq_false_of_ne_true hp
    · rw [if_neg (fun h => h0 h.1)]
      exact ⟨hs, Nat.le_refl _, fun k _ h1 h2 => by omega, fun h => absurd h h0⟩
theorem Left_spec (p : Nat → Bool) (l : List UInt8) : St l (Left p l) ∧ (∀ j, St l j → j < Left p l → p (rn l j) = true) ∧ (Left p l < l.length → p (rn l (Left p l)) = false) := by
  obtain ⟨h1, _, h3, h4⟩ := leftP_spec p l l.length 0 (St.zero l) (by omega)
  exact ⟨h1, fun j hj h => h3 j hj (Nat.zero_le _) h, h4⟩
theorem Right_spec (p : Nat → Bool) (l : List UInt8) : St l (Right p l) ∧ (∀ j, St l j → Right p l ≤ j → j < l.length → p (rn l j) = true) ∧
    (0 < Right p l → ∃ j, St l j ∧ j < l.length ∧ j + wd l j = Right p l ∧ p (rn l j) = false) := by
  obtain ⟨h1, _, h3, h4⟩ := rightP_spec p l l.length l.length (St.len l) (Nat.le_refl _)
  exact ⟨h1, h3, h4⟩
theorem Left_eq {p : Nat → Bool} {l : List UInt8} {L : Nat} (hs : St l L) (h1 : ∀ j, St l j → j < L → p (rn l j) = true) (h2 : L < l.length → p (rn l L) = false) : Left p l = L := by
  obtain ⟨g0, g1, g2⟩ := Left_spec p l
  have hle := hs.le
  have gle := g0.le
  rcases Nat.lt_trichotomy (Left p l) L with h | h | h
  · have a := h1 _ g0 h
    rw [g2 (by omega)] at a
    cases a
  · exact h
  · have a := g1 L hs h
    rw [h2 (by omega)] at a
    cases a
theorem Right_eq {p : Nat → Bool} {l : List UInt8} {R : Nat} (hs : St l R) (h1 : ∀ j, St l j → R ≤ j → j < l.length → p (rn l j) = true)
    (h2 : 0 < R → ∃ j, St l j ∧ j < l.length ∧ j + wd l j = R ∧ p (rn l j) = false) : Right p l = R := by
  obtain ⟨g0, g1, g2⟩ := Right_spec p l
  rcases Nat.lt_trichotomy (Right p l) R with h | h | h
  · obtain ⟨j, hj, hjl, hw, hp⟩ := h2 (by omega)
    have : Right p l ≤ j := by
      apply Nat.le_of_not_lt
      intro hlt
      have := hj.chain g0 hlt
      omega
    rw [g1 j hj this hjl] at hp
    cases hp
  · exact h
  · obtain ⟨j, hj, hjl, hw, hp⟩ := g2 (by omega)
    have : R ≤ j := by
      apply Nat.le_of_not_lt
      intro hlt
      have := hj.chain hs hlt
      omega
    rw [h1 j hj this hjl] at hp
    cases hp
/-! ### pieces -/
theorem bnd_drop {l : List UInt8} {a k0 : Nat} (h0 : bnd l k0 = a) : ∀ k, bnd (l.drop a) k = bnd l (k0 + k) - a ∧ a ≤ bnd l (k0 + k)
  | 0 => by rw [Nat.add_zero, h0, bnd]; omega
  | k + 1 => by
    obtain ⟨h1, h2⟩ := bnd_drop h0 k
    have hle := bnd_le l k0
    have e : wd (l.drop a) (bnd l (k0 + k) - a) = wd l (bnd l (k0 + k)) := by
      unfold wd
      rw [List.drop_drop, show a + (bnd l (k0 + k) - a) = bnd l (k0 + k) by omega]
    rw [bnd, h1, ← Nat.add_assoc, bnd, List.length_drop, e]
    by_cases hc : bnd l (k0 + k) < l.length
    · rw [if_pos (by omega), if_pos hc]; omega
    · rw [if_neg (by omega), if_neg hc]; omega
theorem St_drop {l : List UInt8} {a i : Nat} (ha : St l a) : St (l.drop a) i ↔ St l (a + i) := by
  obtain ⟨k0, h0⟩ := ha
  constructor
  · rintro ⟨k, hk⟩
    have := bnd_drop h0 k
    exact ⟨k0 + k, by omega⟩
  · rintro ⟨k, hk⟩
    by_cases hkk : k0 ≤ k
    · have := bnd_drop h0 (k - k0)
      rw [show k0 + (k - k0) = k by omega] at this
      exact ⟨k - k0, by omega⟩
    · have h1 := bnd_mono l (show k ≤ k0 by omega)
      have : i = 0 := by omega
      subst this
      exact St.zero _
theorem rn_drop (l : List UInt8) (a i : Nat) : rn (l.drop a) i = rn l (a + i) := by unfold rn; rw [List.drop_drop]
theorem wd_drop (l : List UInt8) (a i : Nat) : wd (l.drop a) i = wd l (a + i) := by unfold wd; rw [List.drop_drop]
theorem bnd_take {l : List UInt8} {b : Nat} (hb : St l b) : ∀ k, bnd (l.take b) k = min (bnd l k) b
  | 0 => by simp [bnd]
  | k + 1 => by
    have hle := hb.le
    have ih := bnd_take hb k
    have hl : (l.take b).length = b := by rw [List.length_take]; omega
    rw [bnd, ih, hl, bnd]
    by_cases h : bnd l k < b
    · have hlt : bnd l k < l.length := by omega
      have hch := St.chain ⟨k, rfl⟩ hb h
      have e : wd (l.take b) (bnd l k) = wd l (bnd l k) := by unfold wd; rw [dec_take hle h hch]
      rw [if_pos hlt, Nat.min_eq_left (by omega), if_pos h, e, Nat.min_eq_left hch]
    · rw [Nat.min_eq_right (by omega), if_neg (Nat.lt_irrefl _)]
      have := bnd_succ_le l k
      rw [bnd] at this
      rw [Nat.min_eq_right (by omega)]
theorem St_take {l : List UInt8} {b i : Nat} (hb : St l b) : St (l.take b) i ↔ St l i ∧ i ≤ b := by
  constructor
  · rintro ⟨k, hk⟩
    rw [bnd_take hb] at hk
    by_cases h : bnd l k ≤ b
    · rw [Nat.min_eq_left h] at hk
      exact ⟨⟨k, hk⟩, by omega⟩
    · rw [Nat.min_eq_right (by omega)] at hk
      subst hk
      exact ⟨hb, Nat.le_refl _⟩
  · rintro ⟨⟨k, hk⟩, hi⟩
    exact ⟨k, by rw [bnd_take hb, Nat.min_eq_left (by omega)]; exact hk⟩
theorem rn_take {l : List UInt8} {b i : Nat} (hb : St l b) (hi : St l i) (h : i < b) : rn (l.take b) i = rn l i := by
  unfold rn; rw [dec_take hb.le h (hi.chain hb h)]
theorem wd_take {l : List UInt8} {b i : Nat} (hb : St l b) (hi : St l i) (h : i < b) : wd (l.take b) i = wd l i := by
  unfold wd; rw [dec_take hb.le h (hi.chain hb h)]
/-! ### trimming -/
def trimL (p : Nat → Bool) (l : List UInt8) : List UInt8 := l.drop (Left p l)
def trimR (p : Nat → Bool) (l : List UInt8) : List UInt8 := l.take (Right p l)
def trimB (p : Nat → Bool) (l : List UInt8) : List UInt8 := trimL p (trimR p l)
theorem trim_twice (p : Nat → Bool) (l : List UInt8) : trimB p (trimB p l) = trimB p l ∧ trimR p (trimL p l) = trimB p l := by
  obtain ⟨r0, r1, r2⟩ := Right_spec p l
  obtain ⟨l0, l1, l2⟩ := Left_spec p l
  have rle := r0.le
  generalize hR : Right p l = R at *
  generalize hL : Left p l = L at *
  have htl : (l.take R).length = R := by rw [List.length_take]; omega
  by_cases h0 : R = 0
  · subst h0
    have hLl : L = l.length := by
      apply Nat.le_antisymm l0.le
      apply Nat.le_of_not_lt
      intro h
      have a := r1 L l0 (Nat.zero_le _) h
      rw [l2 h] at a
      cases a
    have e0 : trimB p l = [] := by unfold trimB trimR; rw [hR]; simp [trimL]
    have e1 : trimL p l = [] := by unfold trimL; rw [hL, hLl]; simp
    rw [e0, e1]
    exact ⟨by simp [trimB, trimL, trimR], by simp [trimR]⟩
  · obtain ⟨j0, hj0, hj0l, hj0w, hj0p⟩ := r2 (by omega)
    have hjw := wd_le l j0 hj0l
    have hLj : L ≤ j0 := by
      apply Nat.le_of_not_lt
      intro h
      rw [l1 j0 hj0 h] at hj0p
      cases hj0p
    have hLR : L < R := by omega
    have hLl : L < l.length := by omega
    -- the front of the text that is trimmed behind
    have hLt : Left p (l.take R) = L := by
      refine Left_eq ((St_take r0).2 ⟨l0, by omega⟩) (fun j hj h => ?_) (fun h => ?_)
      · have hj' := ((St_take r0).1 hj).1
        rw [rn_take r0 hj' (by omega)]
        exact l1 j hj' h
      · rw [rn_take r0 l0 hLR]
        exact l2 hLl
    have eT : trimB p l = (l.take R).drop L := by unfold trimB trimR trimL; rw [hR, hLt]
    have hSt : St (l.take R) L := (St_take r0).2 ⟨l0, by omega⟩
    have hul : ((l.take R).drop L).length = R - L := by rw [List.length_drop, htl]
    have hu0 : Left p ((l.take R).drop L) = 0 := by
      refine Left_eq (St.zero _) (fun j _ h => absurd h (Nat.not_lt_zero _)) (fun _ => ?_)
      rw [rn_drop, Nat.add_zero, rn_take r0 l0 hLR]
      exact l2 hLl
    have huR : Right p ((l.take R).drop L) = R - L := by
      refine Right_eq ((St_drop hSt).2 ((St_take r0).2 ⟨by rw [show L + (R - L) = R by omega]; exact r0, by omega⟩)) (fun j _ h1 h2 => by rw [hul] at h2; omega) (fun _ => ⟨j0 - L, ?_, by rw [hul]; omega, ?_, ?_⟩)
      · exact (St_drop hSt).2 ((St_take r0).2 ⟨by rw [show L + (j0 - L) = j0 by omega]; exact hj0, by omega⟩)
      · rw [wd_drop, show L + (j0 - L) = j0 by omega, wd_take r0 hj0 (by omega)]; omega
      · rw [rn_drop, show L + (j0 - L) = j0 by omega, rn_take r0 hj0 (by omega)]; exact hj0p
    refine ⟨?_, ?_⟩
    · rw [eT]
      unfold trimB trimR trimL
      rw [huR, List.take_of_length_le (by rw [hul]; exact Nat.le_refl _), hu0, List.drop_zero]
    · rw [eT]
      unfold trimR trimL
      rw [hL]
      have hvR : Right p (l.drop L) = R - L := by
        refine Right_eq ((St_drop l0).2 (by rw [show L + (R - L) = R by omega]; exact r0)) (fun j hj h1 h2 => ?_) (fun _ => ⟨j0 - L, ?_, by rw [List.length_drop]; omega, ?_, ?_⟩)
        · rw [rn_drop]
          rw [List.length_drop] at h2
          exact r1 _ ((St_drop l0).1 hj) (by omega) (by omega)
        · exact (St_drop l0).2 (by rw [show L + (j0 - L) = j0 by omega]; exact hj0)
        · rw [wd_drop, show L + (j0 - L) = j0 by omega]; omega
        · rw [rn_drop, show L + (j0 - L) = j0 by omega]; exact hj0p
      rw [hvR, List.drop_take]
/-! ### sets of ASCII bytes -/
theorem trimL_set {p : Nat → Bool} {cs l : List UInt8} (h : ∀ r, p r = true ↔ ∃ c ∈ cs, c.toNat = r ∧ c.toNat < 128) (ha : ∀ c ∈ cs, c.toNat < 128) : Lib.trimLeftS l cs = trimL p l := by
  obtain ⟨l0, l1, l2⟩ := Left_spec p l
  have hle := l0.le
  have step : ∀ j, St l j → j < l.length → p (rn l j) = true → wd l j = 1 ∧ (l.getD j 0) ∈ cs := by
    intro j hj hjl hp
    obtain ⟨c, hc, hcr, hc1⟩ := (h _).1 hp
    have hb : (l.getD j 0).toNat < 128 := by
      apply Nat.lt_of_not_le
      intro hge
      have h2 : 128 ≤ (decodeN (l.length - j) (l.getD j 0).toNat (l.getD (j + 1) 0).toNat (l.getD (j + 2) 0).toNat (l.getD (j + 3) 0).toNat).1 := by
        unfold decodeN
        repeat' split
        all_goals (simp only; omega)
      rw [← decL_at] at h2
      unfold rn at hcr
      omega
    have hd := decL_at l j
    rw [decodeN_ascii _ _ _ _ _ hb] at hd
    refine ⟨by unfold wd; rw [hd], ?_⟩
    have : c = l.getD j 0 := UInt8.toNat_inj.1 (by rw [hcr]; unfold rn; rw [hd])
    rw [← this]; exact hc
  have all : ∀ j, j ≤ Left p l → St l j := by
    intro j
    induction j with
    | zero => exact fun _ => St.zero l
    | succ j ih =>
      intro hj
      have hs := ih (by omega)
      have h1 := (step j hs (by omega) (l1 j hs (by omega))).1
      have := hs.next (by omega)
      rwa [h1] at this
  unfold trimL
  refine Lib.trimLeftS_drop l cs _ hle (fun j b hj hb => ?_) (fun b hb => ?_)
  · have h2 := (step j (all j (by omega)) (by omega) (l1 j (all j (by omega)) hj)).2
    rw [List.getD_eq_getElem?_getD, hb] at h2
    simpa using h2
  · refine eq_false_of_ne_true (fun hc => ?_)
    have hb2 : l.getD (Left p l) 0 = b := by rw [List.getD_eq_getElem?_getD, hb]; rfl
    have hlt : Left p l < l.length := (List.getElem?_eq_some_iff.1 hb).1
    have hf := l2 hlt
    have hbc : b ∈ cs := by simpa using hc
    have hd := decL_at l (Left p l)
    rw [hb2, decodeN_ascii _ _ _ _ _ (ha b hbc)] at hd
    have : p (rn l (Left p l)) = true := (h _).2 ⟨b, hbc, by unfold rn; rw [hd], ha b hbc⟩
    rw [this] at hf
    cases hf
theorem trimR_set {p : Nat → Bool} {cs l : List UInt8} (h : ∀ r, p r = true ↔ ∃ c ∈ cs, c.toNat = r ∧ c.toNat < 128) (ha : ∀ c ∈ cs, c.toNat < 128) : Lib.trimRightS l cs = trimR p l := by
  obtain ⟨r0, r1, r2⟩ := Right_spec p l
  have hle := r0.le
  have step : ∀ j, St l j → j < l.length → p (rn l j) = true → wd l j = 1 ∧ (l.getD j 0) ∈ cs := by
    intro j hj hjl hp
    obtain ⟨c, hc, hcr, hc1⟩ := (h _).1 hp
    have hb : (l.getD j 0).toNat < 128 := by
      apply Nat.lt_of_not_le
      intro hge
      have h2 : 128 ≤ (decodeN (l.length - j) (l.getD j 0).toNat (l.getD (j + 1) 0).toNat (l.getD (j + 2) 0).toNat (l.getD (j + 3) 0).toNat).1 := by
        unfold decodeN
        repeat' split
        all_goals (simp only; omega)
      rw [← decL_at] at h2
      unfold rn at hcr
      omega
    have hd := decL_at l j
    rw [decodeN_ascii _ _ _ _ _ hb] at hd
    refine ⟨by unfold wd; rw [hd], ?_⟩
    have : c = l.getD j 0 := UInt8.toNat_inj.1 (by rw [hcr]; unfold rn; rw [hd])
    rw [← this]; exact hc
  have all : ∀ k, Right p l + k ≤ l.length → St l (Right p l + k) := by
    intro k
    induction k with
    | zero => exact fun _ => r0
    | succ k ih =>
      intro hk
      have hs := ih (by omega)
      have h1 := (step _ hs (by omega) (r1 _ hs (by omega) (by omega))).1
      have := hs.next (by omega)
      rw [h1] at this
      exact this
  have all2 : ∀ j, Right p l ≤ j → j ≤ l.length → St l j := fun j h1 h2 => by
    have := all (j - Right p l) (by omega)
    rwa [show Right p l + (j - Right p l) = j by omega] at this
  unfold trimR
  refine Lib.trimRightS_take l cs _ hle (fun j b hj hb => ?_) (fun b h0 hb => ?_)
  · have hjl : j < l.length := (List.getElem?_eq_some_iff.1 hb).1
    have h2 := (step j (all2 j hj (by omega)) hjl (r1 j (all2 j hj (by omega)) hj hjl)).2
    rw [List.getD_eq_getElem?_getD, hb] at h2
    simpa using h2
  · refine eq_false_of_ne_true (fun hc => ?_)
    obtain ⟨j, hj, hjl, hw, hp⟩ := r2 h0
    have hb2 : l.getD (Right p l - 1) 0 = b := by rw [List.getD_eq_getElem?_getD, hb]; rfl
    have hbc : b ∈ cs := by simpa using hc
    have hb128 := ha b hbc
    have hw1 : wd l j = 1 := by
      have h1 := (wd_le l j hjl).1
      apply Nat.le_antisymm _ h1
      apply Nat.le_of_not_lt
      intro h2
      have := interior (l := l) (i := j) (t := wd l j - 1) (by omega) (by omega)
      rw [show j + (wd l j - 1) = Right p l - 1 by omega, hb2] at this
      omega
    rw [show Right p l - 1 = j by omega] at hb2
    have hd := decL_at l j
    rw [hb2, decodeN_ascii _ _ _ _ _ hb128] at hd
    have : p (rn l j) = true := (h _).2 ⟨b, hbc, by unfold rn; rw [hd], hb128⟩
    rw [this] at hp
    cases hp
end Go.Proofs.YthnbifkcbeldmaaDoor
