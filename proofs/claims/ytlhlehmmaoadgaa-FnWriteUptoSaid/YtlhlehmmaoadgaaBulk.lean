/- What the bound of the second form gives: each text and each list is short. (After the kit's UptoLemmas.) -/
import Derived.Test.YtlhlehmmaoadgaaKit
import Derived.Test.YtlhlehmmaoadgaaRows
namespace Go.Proofs.Ytlhlehmmaoadgaa
open Go.ChangeShapes
set_option linter.unusedVariables false

theorem bulk_one {H : Type} (d : DataW H) : 1 ≤ Rows.uptoBulk d := by
  cases d with
  | lit l => cases l <;> simp [Rows.uptoBulk]
  | nil => simp [Rows.uptoBulk]
  | ptr d => simp [Rows.uptoBulk]
  | slice elems spare => simp [Rows.uptoBulk]
  | agg parts => simp [Rows.uptoBulk]
  | iface t d => simp [Rows.uptoBulk]
  | map entries => simp [Rows.uptoBulk]
  | held h => simp [Rows.uptoBulk]
theorem bulk_part {H : Type} {d : DataW H} {l : List (DataW H)} (h : d ∈ l) : Rows.uptoBulk d ≤ Rows.uptoBulkAll l := by
  induction l with
  | nil => cases h
  | cons x r ih =>
    simp only [Rows.uptoBulkAll]
    cases List.mem_cons.1 h with
    | inl e => subst e; omega
    | inr e => have := ih e; omega
theorem bulk_length {H : Type} (l : List (DataW H)) : l.length ≤ Rows.uptoBulkAll l := by
  induction l with
  | nil => simp [Rows.uptoBulkAll]
  | cons x r ih => have := bulk_one x; simp only [Rows.uptoBulkAll, List.length_cons]; omega
/-- a text among what came in -/
theorem bulk_str {H : Type} {l : List (DataW H)} {B : Nat} {s : ByteArray} (hk : Rows.uptoBulkAll l ≤ B) (h : DataW.lit (.string s.data.toList) ∈ l) : s.size ≤ B := by
  have h1 := bulk_part h
  simp only [Rows.uptoBulk] at h1
  have e : s.data.toList.length = s.size := by rw [Array.length_toList]; rfl
  omega
/-- a list of texts among what came in -/
theorem bulk_strs {H : Type} {l : List (DataW H)} {B : Nat} {ss : List ByteArray} {sp : List (DataW H)} (hk : Rows.uptoBulkAll l ≤ B) (h : DataW.slice (strs ss) sp ∈ l) : ss.length ≤ B ∧ ∀ s ∈ ss, s.size ≤ B := by
  have h1 := bulk_part h
  simp only [Rows.uptoBulk] at h1
  have h2 := bulk_length (strs (H := H) ss)
  have e : (strs (H := H) ss).length = ss.length := by simp [strs]
  refine ⟨by omega, fun s hs => ?_⟩
  have h3 : DataW.lit (.string s.data.toList) ∈ strs (H := H) ss := List.mem_map.2 ⟨s, hs, rfl⟩
  exact bulk_str (l := strs (H := H) ss) (by omega) h3
/-- a short list of short texts -/
def Short (len : Nat) (z : List ByteArray) : Prop := len ≤ 1048576 ∧ ∀ s ∈ z.take len, s.size ≤ 1048576
end Go.Proofs.Ytlhlehmmaoadgaa
