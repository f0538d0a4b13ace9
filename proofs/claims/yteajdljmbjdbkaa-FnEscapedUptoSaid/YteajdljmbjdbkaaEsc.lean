/- Bytes that are written as two bytes: the plain law of FnEscaped. -/
import Derived.Test.YteajdljmbjdbkaaPairs
import Derived.Test.YteajdljmbjdbkaaRepX
namespace Go.Proofs.Yteajdljmbjdbkaa
open Go.RowKit Go.Lib
set_option linter.unusedVariables false

def escT (m : UInt8) (β κ : Nat → UInt8) (i : Nat) : ByteArray × ByteArray := (oneB (β i), oneB m ++ oneB (κ i))
def escB (m : UInt8) (β κ : Nat → UInt8) (i : Nat) : ByteArray × ByteArray := (oneB m ++ oneB (κ i), oneB (β i))
theorem two_list (m k : UInt8) : (oneB m ++ oneB k).data.toList = [m, k] := by simp [oneB, ByteArray.data_append]
theorem esc_back (m : UInt8) (β κ : Nat → UInt8) (N : Nat) (hN : 0 < N) (h0 : β 0 = m) (hk : ∀ i j, i < N → j < N → κ i = κ j → i = j) (s : List UInt8) :
    rep (prs (pairsF (escB m β κ) N)) true (rep (prs (pairsF (escT m β κ) N)) true s) = s := by
  have eT : prs (pairsF (escT m β κ) N) = (List.range N).map fun i => ([β i], [m, κ i]) := by
    rw [pairsF_prs]
    apply List.map_congr_left
    intro i _
    simp only [escT, two_list]
    rfl
  have eB : prs (pairsF (escB m β κ) N) = (List.range N).map fun i => ([m, κ i], [β i]) := by
    rw [pairsF_prs]
    apply List.map_congr_left
    intro i _
    simp only [escB, two_list]
    rfl
  rw [eT, eB, rep_bytes (l := (List.range N).map fun i => ([β i], [m, κ i])) (fun p hp => by obtain ⟨i, _, rfl⟩ := List.mem_map.1 hp; rfl)]
  refine rep_back (l := (List.range N).map fun i => ([m, κ i], [β i])) (m := m) (enc := tab ((List.range N).map fun i => ([β i], [m, κ i]))) (fun p hp => by obtain ⟨i, _, rfl⟩ := List.mem_map.1 hp; simp) (fun c => ?_) s
  have htab : tab ((List.range N).map fun i => ([β i], [m, κ i])) c = match (List.range N).find? (fun i => β i == c) with | some i => [m, κ i] | none => [c] := by
    rw [tab, List.find?_map]
    have e : ((fun p : List UInt8 × List UInt8 => p.1 == [c]) ∘ fun i => ([β i], [m, κ i])) = fun i => β i == c := by
      funext i
      simp
    rw [e]
    cases (List.range N).find? (fun i => β i == c) <;> rfl
  rw [htab]
  cases hf : (List.range N).find? (fun i => β i == c) with
  | some i =>
    obtain ⟨h1, h2, _⟩ := List.find?_range_eq_some.1 hf
    have hi := List.mem_range.1 h2
    have hc : β i = c := by simpa using h1
    refine .inl ⟨κ i, rfl, fun r => ?_⟩
    unfold hit
    simp only [Bool.true_or, Bool.true_and]
    rw [List.find?_map]
    have e : ((fun p : List UInt8 × List UInt8 => p.1.isPrefixOf (m :: κ i :: r)) ∘ fun j => ([m, κ j], [β j])) = fun j => κ j == κ i := by
      funext j
      simp [List.isPrefixOf]
    rw [e]
    have : (List.range N).find? (fun j => κ j == κ i) = some i := List.find?_range_eq_some.2 ⟨by simp, h2, fun j hj => by
      have : κ j ≠ κ i := fun h => by have := hk j i (by omega) hi h; omega
      simp [this]⟩
    rw [this, ← hc]
    rfl
  | none =>
    have hno := List.find?_range_eq_none.1 hf
    have hcm : m ≠ c := fun h => by
      have := hno 0 hN
      rw [h0, h] at this
      simp at this
    refine .inr ⟨rfl, fun r => ?_⟩
    unfold hit
    simp only [Bool.true_or, Bool.true_and]
    rw [List.find?_eq_none]
    intro p hp
    obtain ⟨i, _, rfl⟩ := List.mem_map.1 hp
    simp [List.isPrefixOf, hcm]
end Go.Proofs.Yteajdljmbjdbkaa
