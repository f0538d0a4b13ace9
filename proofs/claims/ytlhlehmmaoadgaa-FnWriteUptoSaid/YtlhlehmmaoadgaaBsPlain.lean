/- Plain: bytes that are replaced by texts, and how long the result is. -/
import Derived.Lib.SlBuf
namespace Go.Proofs.Ytlhlehmmaoadgaa
open Go.RowKit Go.Lib
set_option linter.unusedVariables false

/-- what a byte becomes -/
def tabF (F : UInt8 → Option (List UInt8)) (c : UInt8) : List UInt8 := (F c).getD [c]
def outF (F : UInt8 → Option (List UInt8)) (s : List UInt8) : List UInt8 := s.flatMap (tabF F)
theorem outF_step (F : UInt8 → Option (List UInt8)) (s : List UInt8) (i : Nat) (h : i < s.length) : outF F (s.take (i + 1)) = outF F (s.take i) ++ tabF F s[i] := by
  unfold outF
  rw [List.take_succ_eq_append_getElem h, List.flatMap_append]
  simp
theorem outF_none (F : UInt8 → Option (List UInt8)) : ∀ s : List UInt8, (∀ c ∈ s, F c = none) → outF F s = s
  | [], _ => rfl
  | c :: r, h => by
    have ih := outF_none F r (fun x hx => h x (by simp [hx]))
    unfold outF at ih ⊢
    rw [List.flatMap_cons, ih, tabF, h c (by simp)]
    rfl
theorem outF_le (F : UInt8 → Option (List UInt8)) (M : Nat) (hM : ∀ c t, F c = some t → t.length ≤ M) : ∀ s : List UInt8, (outF F s).length ≤ s.length * (M + 1)
  | [] => by simp [outF]
  | c :: r => by
    have ih := outF_le F M hM r
    unfold outF at ih ⊢
    rw [List.flatMap_cons, List.length_append, List.length_cons, Nat.succ_mul]
    have : (tabF F c).length ≤ M + 1 := by
      unfold tabF
      cases hc : F c with
      | none => simp
      | some t => have := hM c t hc; simp; omega
    omega
theorem outF_mono (F : UInt8 → Option (List UInt8)) (s : List UInt8) (i : Nat) : (outF F (s.take i)).length ≤ (outF F s).length := by
  conv => rhs; rw [← List.take_append_drop i s]
  unfold outF
  rw [List.flatMap_append, List.length_append]
  omega
/-- the first keys alone -/
def restr (F : UInt8 → Option (List UInt8)) (ks : List UInt8) (q : Nat) (c : UInt8) : Option (List UInt8) := if c ∈ ks.take q then F c else none
theorem restr_zero (F : UInt8 → Option (List UInt8)) (ks s : List UInt8) : outF (restr F ks 0) s = s := outF_none _ s (fun c _ => by simp [restr])
theorem restr_all (F : UInt8 → Option (List UInt8)) (ks : List UInt8) (hk : ∀ c, F c ≠ none → c ∈ ks) : restr F ks ks.length = F := by
  funext c
  unfold restr
  rw [List.take_length]
  split
  · rfl
  · rename_i h
    cases hc : F c with
    | none => rfl
    | some t => exact absurd (hk c (by rw [hc]; simp)) h
theorem restr_le {F : UInt8 → Option (List UInt8)} {M : Nat} (hM : ∀ c t, F c = some t → t.length ≤ M) (ks : List UInt8) (q : Nat) : ∀ c t, restr F ks q c = some t → t.length ≤ M := by
  intro c t h
  unfold restr at h
  split at h
  · exact hM c t h
  · cases h
theorem restr_step (F : UInt8 → Option (List UInt8)) (ks : List UInt8) (q : Nat) (h : q < ks.length) (hn : ks.Nodup) (t : List UInt8) (ht : F ks[q] = some t) : ∀ s : List UInt8,
    ((outF (restr F ks (q + 1)) s).length : Int) = (outF (restr F ks q) s).length + (s.count ks[q] : Int) * ((t.length : Int) - 1)
  | [] => by simp [outF]
  | c :: r => by
    have ih := restr_step F ks q h hn t ht r
    unfold outF at ih ⊢
    rw [List.flatMap_cons, List.flatMap_cons, List.length_append, List.length_append, List.count_cons]
    have hnot : ks[q] ∉ ks.take q := fun hm => by
      obtain ⟨j, hj, he⟩ := List.getElem_of_mem hm
      rw [List.getElem_take] at he
      rw [List.length_take] at hj
      have := (List.getElem_inj hn).1 he
      omega
    have hmem : ∀ x, x ∈ ks.take (q + 1) ↔ x ∈ ks.take q ∨ x = ks[q] := fun x => by
      rw [List.take_succ_eq_append_getElem h, List.mem_append, List.mem_singleton]
    by_cases e : c = ks[q]
    · have h1 : tabF (restr F ks (q + 1)) c = t := by
        unfold tabF restr
        rw [if_pos ((hmem c).2 (.inr e)), e, ht]
        rfl
      have h2 : tabF (restr F ks q) c = [c] := by
        unfold tabF restr
        rw [if_neg (by rw [e]; exact hnot)]
        rfl
      rw [h1, h2]
      have h3 : (c == ks[q]) = true := by simp [e]
      rw [h3]
      simp only [if_true, List.length_singleton]
      push_cast
      rw [Int.add_mul, ih]
      omega
    · have h1 : tabF (restr F ks (q + 1)) c = tabF (restr F ks q) c := by
        unfold tabF restr
        by_cases hm : c ∈ ks.take q
        · rw [if_pos ((hmem c).2 (.inl hm)), if_pos hm]
        · rw [if_neg (fun h => ((hmem c).1 h).elim hm e), if_neg hm]
      rw [h1]
      have h3 : (c == ks[q]) = false := by simp [e]
      rw [h3]
      push_cast
      rw [ih]
      simp
      omega
/-- a byte behind what is filled -/
theorem buf_put {w0 wr : World} {h N : Nat} {acc : List UInt8} (hb : Buf w0 wr h N acc) (hh : acc.length < N) (c : UInt8) : Buf w0 (wr.setCell ⟨h, acc.length, none⟩ (.int .u8 (c.toNat : Int))) h N (acc ++ [c]) := by
  obtain ⟨v, hv⟩ := Option.isSome_iff_exists.1 (hb.there acc.length hh)
  refine ⟨hb.below.setCell (p := ⟨h, acc.length, none⟩) (Nat.le_refl _) _, fun j hj => ?_, fun j hj => by simp [hb.free j hj], fun j x hx => ?_, by rw [List.length_append]; exact hh⟩
  · by_cases e : j = acc.length
    · subst e; rw [World.cell?_setCell_same _ _ _ hv]; rfl
    · rw [World.cell?_setCell_other _ _ _ _ (by intro e2; injection e2; omega)]; exact hb.there j hj
  · by_cases e : j = acc.length
    · subst e
      rw [World.cell?_setCell_same _ _ _ hv]
      rw [List.getElem?_append_right (Nat.le_refl _), Nat.sub_self] at hx
      simp at hx
      rw [hx]
    · have hj : j < acc.length := by
        have := (List.getElem?_eq_some_iff.1 hx).1
        rw [List.length_append] at this
        simp at this
        omega
      rw [World.cell?_setCell_other _ _ _ _ (by intro e2; injection e2; omega)]
      rw [List.getElem?_append_left hj] at hx
      exact hb.holds j x hx
end Go.Proofs.Ytlhlehmmaoadgaa
