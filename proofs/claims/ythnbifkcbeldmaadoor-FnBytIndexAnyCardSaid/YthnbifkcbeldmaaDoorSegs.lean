/- Where code points begin in a list of bytes, from the front and from the end; trimming at both ends. Plain. -/
import Derived.Lib.TrimUEq
import Derived.Lib.FieldsU
import Derived.Lib.SlTrimSet
namespace Go.Proofs.YthnbifkcbeldmaaDoor
open Go.Lib
set_option linter.unusedVariables false

def wd (l : List UInt8) (i : Nat) : Nat := (decodeL (l.drop i)).2
def rn (l : List UInt8) (i : Nat) : Nat := (decodeL (l.drop i)).1
theorem decL_at (l : List UInt8) (i : Nat) : decodeL (l.drop i) = decodeN (l.length - i) (l.getD i 0).toNat (l.getD (i + 1) 0).toNat (l.getD (i + 2) 0).toNat (l.getD (i + 3) 0).toNat := by
  rw [decodeL_N, List.length_drop, getD_dropU, getD_dropU, getD_dropU, getD_dropU, Nat.add_zero]
theorem wd_le (l : List UInt8) (i : Nat) (h : i < l.length) : 1 ≤ wd l i ∧ i + wd l i ≤ l.length := by
  have h1 := decodeL_width (l.drop i)
  have h2 := decodeN_le_n' (l.length - i) (l.getD i 0).toNat (l.getD (i + 1) 0).toNat (l.getD (i + 2) 0).toNat (l.getD (i + 3) 0).toNat (by omega)
  rw [← decL_at] at h2
  exact ⟨h1, by unfold wd; omega⟩
def bnd (l : List UInt8) : Nat → Nat
  | 0 => 0
  | k + 1 => if bnd l k < l.length then bnd l k + wd l (bnd l k) else bnd l k
theorem bnd_le (l : List UInt8) : ∀ k, bnd l k ≤ l.length
  | 0 => Nat.zero_le _
  | k + 1 => by
    rw [bnd]
    split
    · exact (wd_le l _ (by assumption)).2
    · exact bnd_le l k
theorem bnd_succ_le (l : List UInt8) (k : Nat) : bnd l k ≤ bnd l (k + 1) := by
  rw [bnd]; split <;> omega
theorem bnd_mono (l : List UInt8) {k m : Nat} (h : k ≤ m) : bnd l k ≤ bnd l m := by
  induction m with
  | zero => obtain rfl : k = 0 := by omega
            exact Nat.le_refl _
  | succ m ih =>
    by_cases e : k = m + 1
    · subst e; exact Nat.le_refl _
    · exact Nat.le_trans (ih (by omega)) (bnd_succ_le l m)
theorem bnd_grow (l : List UInt8) : ∀ k, k ≤ l.length → k ≤ bnd l k
  | 0, _ => Nat.zero_le _
  | k + 1, h => by
    have := bnd_grow l k (by omega)
    rw [bnd]
    split
    · have := (wd_le l _ (by assumption)).1
      omega
    · omega
/-- a code point begins there, or the text ends there -/
def St (l : List UInt8) (i : Nat) : Prop := ∃ k, bnd l k = i
theorem St.zero (l : List UInt8) : St l 0 := ⟨0, rfl⟩
theorem St.le {l : List UInt8} {i : Nat} (h : St l i) : i ≤ l.length := by obtain ⟨k, rfl⟩ := h; exact bnd_le l k
theorem St.next {l : List UInt8} {i : Nat} (h : St l i) (hi : i < l.length) : St l (i + wd l i) := by
  obtain ⟨k, rfl⟩ := h
  exact ⟨k + 1, by rw [bnd, if_pos hi]⟩
theorem St.len (l : List UInt8) : St l l.length := ⟨l.length, Nat.le_antisymm (bnd_le l _) (bnd_grow l _ (Nat.le_refl _))⟩
theorem St.chain {l : List UInt8} {a b : Nat} (ha : St l a) (hb : St l b) (h : a < b) : a + wd l a ≤ b := by
  have hl := hb.le
  obtain ⟨k, rfl⟩ := ha
  obtain ⟨m, rfl⟩ := hb
  have hkm : k < m := by
    apply Nat.lt_of_not_le
    intro hc
    have := bnd_mono l hc
    omega
  have := bnd_mono l (show k + 1 ≤ m from hkm)
  rw [bnd, if_pos (by omega)] at this
  exact this
theorem St.pred {l : List UInt8} {i : Nat} (h : St l i) (hi : 0 < i) : ∃ j, St l j ∧ j < l.length ∧ j < i ∧ j + wd l j = i := by
  obtain ⟨k, rfl⟩ := h
  induction k with
  | zero => simp [bnd] at hi
  | succ k ih =>
    rw [bnd] at hi ⊢
    split at hi
    next hlt =>
      rw [if_pos hlt]
      have := (wd_le l _ hlt).1
      exact ⟨bnd l k, ⟨k, rfl⟩, hlt, by omega, rfl⟩
    next hlt =>
      rw [if_neg hlt]
      exact ih hi
set_option maxRecDepth 100000 in
theorem interior {l : List UInt8} {i t : Nat} (h1 : 1 ≤ t) (h2 : t < wd l i) : (l.getD (i + t) 0).toNat / 64 = 2 := by
  unfold wd at h2
  rw [decL_at] at h2
  unfold decodeN at h2
  repeat' split at h2
  all_goals (simp only at h2)
  all_goals first
    | omega
    | (have ht : t = 1 := by omega
       subst ht
       omega)
    | (have ht : t = 1 ∨ t = 2 := by omega
       rcases ht with ht | ht <;> subst ht <;> omega)
    | (have ht : t = 1 ∨ t = 2 ∨ t = 3 := by omega
       rcases ht with ht | ht | ht <;> subst ht <;> omega)
theorem lead_of_wide {l : List UInt8} {i : Nat} (h : 2 ≤ wd l i) : (l.getD i 0).toNat / 64 ≠ 2 := fun e => by
  unfold wd at h
  rw [decL_at, decodeN_cont _ _ _ _ _ e] at h
  simp at h
theorem lead {l : List UInt8} {i : Nat} (hi : i < l.length) (h : (l.getD i 0).toNat / 64 ≠ 2) : St l i := by
  have key : ∀ k, St l i ∨ bnd l k < i := by
    intro k
    induction k with
    | zero =>
      by_cases e : i = 0
      · exact .inl (e ▸ St.zero l)
      · exact .inr (show 0 < i by omega)
    | succ k ih =>
      rcases ih with h1 | h1
      · exact .inl h1
      · have hlt : bnd l k < l.length := by omega
        by_cases h2 : bnd l k + wd l (bnd l k) < i
        · exact .inr (by rw [bnd, if_pos hlt]; exact h2)
        · by_cases h3 : bnd l k + wd l (bnd l k) = i
          · exact .inl ⟨k + 1, by rw [bnd, if_pos hlt]; exact h3⟩
          · refine absurd (interior (l := l) (i := bnd l k) (t := i - bnd l k) (by omega) (by omega)) ?_
            rw [show bnd l k + (i - bnd l k) = i by omega]
            exact h
  rcases key i with h1 | h1
  · exact h1
  · have := bnd_grow l i (by omega)
    omega
theorem width1 (n b0 b1 b2 b3 : Nat) (h : (decodeN n b0 b1 b2 b3).2 = 1) (h0 : 128 ≤ b0) : decodeN n b0 b1 b2 b3 = (65533, 1) := by
  unfold decodeN at h ⊢
  repeat' split at h
  all_goals first
    | (exfalso; omega)
    | (exfalso; simp at h; done)
    | ((repeat' split) <;> first | rfl | (exfalso; omega))
set_option maxRecDepth 100000 in
set_option maxHeartbeats 2000000 in
theorem decodeN_less (n n' b0 b1 b2 b3 c1 c2 c3 : Nat) (hn : n' ≤ n) (h1 : 1 ≤ n') (hw : (decodeN n b0 b1 b2 b3).2 ≤ n') (e1 : 1 < n' → c1 = b1) (e2 : 2 < n' → c2 = b2) (e3 : 3 < n' → c3 = b3) :
    decodeN n' b0 c1 c2 c3 = decodeN n b0 b1 b2 b3 := by
  by_cases a1 : 1 < n'
  · obtain rfl := e1 a1
    by_cases a2 : 2 < n'
    · obtain rfl := e2 a2
      by_cases a3 : 3 < n'
      · obtain rfl := e3 a3
        unfold decodeN at hw ⊢
        repeat' split at hw
        all_goals (repeat' split)
        all_goals first | rfl | (exfalso; simp only at hw; omega) | (exfalso; omega)
      · unfold decodeN at hw ⊢
        repeat' split at hw
        all_goals (repeat' split)
        all_goals first | rfl | (exfalso; simp only at hw; omega) | (exfalso; omega)
    · unfold decodeN at hw ⊢
      repeat' split at hw
      all_goals (repeat' split)
      all_goals first | rfl | (exfalso; simp only at hw; omega) | (exfalso; omega)
  · unfold decodeN at hw ⊢
    repeat' split at hw
    all_goals (repeat' split)
    all_goals first | rfl | (exfalso; simp only at hw; omega) | (exfalso; omega)
/-- what a code point is does not hang on what stands behind it -/
theorem dec_take {l : List UInt8} {i b : Nat} (hb : b ≤ l.length) (hi : i < b) (hw : i + wd l i ≤ b) : decodeL ((l.take b).drop i) = decodeL (l.drop i) := by
  unfold wd at hw
  rw [decL_at] at hw
  rw [decL_at, decL_at, List.length_take, Nat.min_eq_left hb, getD_takeU l b i hi]
  exact decodeN_less _ _ _ _ _ _ _ _ _ (by omega) (by omega) (by omega) (fun h => by rw [getD_takeU l b _ (by omega)]) (fun h => by rw [getD_takeU l b _ (by omega)]) (fun h => by rw [getD_takeU l b _ (by omega)])
theorem lastStart_wide {l : List UInt8} {j : Nat} (hj : j < l.length) (hw : 2 ≤ wd l j) : lastStart (l.take (j + wd l j)) = j := by
  have hle := (wd_le l j hj).2
  have h4 : wd l j ≤ 4 := by
    unfold wd
    rw [decL_at]
    unfold decodeN
    repeat' split
    all_goals simp
  have hl : (l.take (j + wd l j)).length = j + wd l j := by rw [List.length_take]; omega
  have g0 : runeStartB (l.getD j 0) = true := by
    have := lead_of_wide hw
    unfold runeStartB
    simpa using this
  have gi : ∀ t, 1 ≤ t → t < wd l j → runeStartB (l.getD (j + t) 0) = false := fun t h1 h2 => by
    have := interior (l := l) (i := j) h1 h2
    unfold runeStartB
    simpa using this
  generalize hW : wd l j = W at *
  unfold lastStart
  simp only [hl]
  rcases (by omega : W = 2 ∨ W = 3 ∨ W = 4) with rfl | rfl | rfl
  · rw [if_neg (by omega), show j + 2 - 2 = j by omega, getD_takeU l _ _ (by omega), g0]
    simp
  · rw [if_neg (by omega), show j + 3 - 2 = j + 1 by omega, getD_takeU l _ _ (by omega), gi 1 (by omega) (by omega), show j + 3 - 3 = j by omega, getD_takeU l _ _ (by omega), g0]
    simp
    omega
  · rw [if_neg (by omega), show j + 4 - 2 = j + 2 by omega, getD_takeU l _ _ (by omega), gi 2 (by omega) (by omega), show j + 4 - 3 = j + 1 by omega, getD_takeU l _ _ (by omega), gi 1 (by omega) (by omega),
      show j + 4 - 4 = j by omega, getD_takeU l _ _ (by omega), g0]
    simp only [Bool.false_eq_true, if_false, if_true, show ¬ j + 4 < 3 by omega, show ¬ j + 4 < 4 by omega]
/-- THE LAST CODE POINT AHEAD OF A BOUNDARY, FOUND BACKWARDS, IS THE ONE THAT ENDS THERE. -/
theorem St.last {l : List UInt8} {j : Nat} (hs : St l j) (hj : j < l.length) : decodeLastL (l.take (j + wd l j)) = decodeL (l.drop j) := by
  obtain ⟨h1, hle⟩ := wd_le l j hj
  have hl : (l.take (j + wd l j)).length = j + wd l j := by rw [List.length_take]; omega
  have hne : l.take (j + wd l j) ≠ [] := fun h => by rw [h] at hl; simp at hl; omega
  have hlb : (l.take (j + wd l j)).getD (j + wd l j - 1) 0 = l.getD (j + wd l j - 1) 0 := getD_takeU l _ _ (by omega)
  by_cases ha : (l.getD (j + wd l j - 1) 0).toNat < 128
  · have hw1 : wd l j = 1 := by
      apply Nat.le_antisymm _ h1
      apply Nat.le_of_not_lt
      intro h2
      have := interior (l := l) (i := j) (t := wd l j - 1) (by omega) (by omega)
      rw [show j + (wd l j - 1) = j + wd l j - 1 by omega] at this
      omega
    unfold decodeLastL
    rw [if_neg hne, hl, hlb, if_pos ha]
    rw [hw1, show j + 1 - 1 = j by omega] at ha ⊢
    rw [decL_at, decodeN_ascii _ _ _ _ _ ha]
  · by_cases hw1 : wd l j = 1
    · have hd : decodeL (l.drop j) = (65533, 1) := by
        rw [decL_at]
        refine width1 _ _ _ _ _ ?_ ?_
        · rw [← decL_at]; exact hw1
        · rw [hw1, show j + 1 - 1 = j by omega] at ha; omega
      rw [hd]
      rw [hw1] at hl hlb hne ha ⊢
      unfold decodeLastL
      rw [if_neg hne, hl, hlb, if_neg ha]
      simp only
      split
      next hfit =>
        have hst := lastStart_lt' _ hne
        rw [hl] at hst
        generalize hS : lastStart (l.take (j + 1)) = S at *
        by_cases hK : (decodeL ((l.take (j + 1)).drop S)).2 = 1
        · have : S = j := by omega
          subst this
          rw [decL_at, List.length_take, Nat.min_eq_left (by omega)]
          refine decodeN_alone _ _ _ _ _ ?_ (.inl (by omega))
          rw [getD_takeU l _ _ (by omega)]
          rw [show S + 1 - 1 = S by omega] at ha
          omega
        · exfalso
          have hge := decodeL_width ((l.take (j + 1)).drop S)
          have hw2 : 2 ≤ wd (l.take (j + 1)) S := by unfold wd; omega
          have hK2 : wd (l.take (j + 1)) S = j + 1 - S := by unfold wd; omega
          have hmore : decodeL (l.drop S) = decodeL ((l.take (j + 1)).drop S) := by
            unfold wd at hK2
            rw [decL_at] at hK2
            rw [decL_at, decL_at]
            rw [List.length_take, Nat.min_eq_left (by omega)] at hK2 ⊢
            rw [getD_takeU l _ S (by omega)] at hK2 ⊢
            exact decodeN_more _ _ _ _ _ _ _ _ _ (by omega) (by omega) hK2 (fun h => by rw [getD_takeU l _ _ (by omega)]) (fun h => by rw [getD_takeU l _ _ (by omega)]) (fun h => by rw [getD_takeU l _ _ (by omega)])
          have hwS : wd l S = j + 1 - S := by unfold wd; rw [hmore]; exact hK2
          have hSt : St l S := lead (by omega) (lead_of_wide (by omega))
          have := hSt.chain hs (by omega)
          omega
      next => rfl
    · have h2 : 2 ≤ wd l j := by omega
      unfold decodeLastL
      rw [if_neg hne, hl, hlb, if_neg ha]
      simp only
      rw [lastStart_wide hj h2, dec_take hle (by omega) (Nat.le_refl _)]
      exact if_pos rfl
end Go.Proofs.YthnbifkcbeldmaaDoor
