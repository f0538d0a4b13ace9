/- Pairs that are built by a loop; texts of one byte. -/
import Derived.Test.YteajdljmbjdbkaaHasB
import Derived.ProofKit
import Derived.WalkArith
import Derived.OpenShut
import Derived.Laws.Concat
namespace Go.Proofs.Yteajdljmbjdbkaa
open Go.RowKit Go.Lib
set_option linter.unusedVariables false

def oneB (c : UInt8) : ByteArray := ⟨#[c]⟩
theorem oneB_list (c : UInt8) : (oneB c).data.toList = [c] := rfl
theorem baz (l : List UInt8) : (⟨l.toArray⟩ : ByteArray).size = l.length := by
  show l.toArray.size = _
  simp
def atB (s : ByteArray) (i : Nat) : UInt8 := s.data.toList.getD i 0
theorem atB_get (s : ByteArray) (i : Nat) (h : i < s.size) : s[i] = atB s i := by
  have h2 : i < s.data.toList.length := by simp; exact h
  unfold atB
  rw [List.getD_eq_getElem?_getD, List.getElem?_eq_getElem h2]
  rfl
theorem cut_one (s : ByteArray) (i : Nat) (h : i < s.size) : s.extract i (i + 1) = oneB (atB s i) := by
  rw [← atB_get s i h]
  apply ByteArray.ext
  apply Array.ext'
  rw [ByteArray.data_extract]
  have h2 : i < s.data.toList.length := by simp; exact h
  rw [Array.toList_extract, List.extract_eq_take_drop, List.drop_eq_getElem_cons h2]
  simp [oneB]
  rfl
/-- the first pairs of a row of pairs -/
def pairsF (f : Nat → ByteArray × ByteArray) : Nat → List ByteArray
  | 0 => []
  | k + 1 => pairsF f k ++ [(f k).1, (f k).2]
theorem pairsF_length (f : Nat → ByteArray × ByteArray) : ∀ k, (pairsF f k).length = 2 * k
  | 0 => rfl
  | k + 1 => by rw [pairsF, List.length_append, pairsF_length f k]; rfl
theorem pairsF_prs (f : Nat → ByteArray × ByteArray) : ∀ k, prs (pairsF f k) = (List.range k).map fun i => ((f i).1.data.toList, (f i).2.data.toList)
  | 0 => rfl
  | k + 1 => by
    rw [pairsF, prs_append _ _ k (pairsF_length f k), pairsF_prs f k, List.range_succ, List.map_append]
    rfl
theorem pairsF_mem {f : Nat → ByteArray × ByteArray} {x : ByteArray} : ∀ {k}, x ∈ pairsF f k → ∃ i, i < k ∧ (x = (f i).1 ∨ x = (f i).2)
  | 0, h => by simp [pairsF] at h
  | k + 1, h => by
    rw [pairsF] at h
    rcases List.mem_append.1 h with h | h
    · obtain ⟨i, hi, hx⟩ := pairsF_mem h
      exact ⟨i, by omega, hx⟩
    · simp at h
      exact ⟨k, by omega, h⟩
end Go.Proofs.Yteajdljmbjdbkaa
