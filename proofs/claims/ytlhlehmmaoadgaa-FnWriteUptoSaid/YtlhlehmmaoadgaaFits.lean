/- Lists of texts that came in: zzFits1, rpEven. -/
import Derived.Test.YtlhlehmmaoadgaaKit
import Derived.Test.YtlhlehmmaoadgaaRows
import Derived.WalkKit
import Derived.WalkSpells
import Derived.WalkLawsBesides
import Derived.WalkSmall
import Derived.Below
import Derived.BigCall
import Derived.BigGuard
import Derived.KernelRfl
import Derived.Lib.Hide
import Derived.Lib.Walk
import Derived.Outline
import Derived.OwnWalk
namespace Go.Proofs.Ytlhlehmmaoadgaa
open Go.RowKit Go.Lib
set_option linter.unusedVariables false

/-- a list of texts in memory, below a block -/
def StrsAt (w : World) (B : Nat) (a : Option Addr) (l : List ByteArray) : Prop :=
  ∀ i (h : i < l.length), ∃ x, a = some x ∧ x.block < B ∧ w.cell? (x.add i) = some (.string l[i])
theorem add_block (a : Addr) (n : Nat) : (a.add n).block = a.block := by unfold Addr.add; split <;> rfl
theorem StrsAt.below {w w' : World} {B : Nat} {a : Option Addr} {l : List ByteArray} (h : StrsAt w B a l) (hb : Below B w w') : StrsAt w' B a l := fun i hi => by
  obtain ⟨x, e, hx, hc⟩ := h i hi
  exact ⟨x, e, hx, by rw [hb.cell (by rw [add_block]; exact hx)]; exact hc⟩
/-- what a law's argument gives -/
theorem strs_of {w : World} {a : Option Addr} {len cap : Nat} {z : List ByteArray} (h : IsStrs w a len cap z) : ∃ l : List ByteArray, l.length = len ∧ StrsAt w w.heap.size a l ∧ len ≤ maxLen ∧ (∀ s ∈ l, s.size ≤ maxLen) ∧ len ≤ cap := by
  rcases h with ⟨rfl, rfl, rfl, rfl⟩ | ⟨x, rfl, h1, h2, h3, h4, h5⟩
  · exact ⟨[], rfl, fun i h => absurd h (Nat.not_lt_zero _), Nat.zero_le _, (fun s h => by cases h), Nat.le_refl _⟩
  · refine ⟨z.take len, by rw [List.length_take]; omega, fun i hi => ?_, by omega, fun s hs => h5 s (List.mem_of_mem_take hs), h1⟩
    rw [List.length_take] at hi
    have hc := h4 i (by omega)
    refine ⟨x, rfl, ?_, ?_⟩
    · have := World.block_lt_of_cell? w _ hc
      rwa [add_block] at this
    · rw [hc, List.getElem_take]
      simp [List.getD, show i < z.length by omega]

set_option maxHeartbeats 800000 in
theorem fits_yes (a : Option Addr) (cap B : Nat) (l : List ByteArray) (w : World) (hs : StrsAt w B a l) (hl : l.length ≤ 2147483647) (hk : ∀ s ∈ l, s.size ≤ 2147483647) :
    Calls Try.prog 4 #[.slice a l.length cap] w fun e w' => e = .returned (.bool true) ∧ w = w' := by
  have HS := Lib.hid hs
  have HK := Lib.hid hk
  clear hs hk
  go_enter Try.func4, Try.ntmps4
  go_wp2
  go_loop [10] (fun i => ∃ k : Nat, k ≤ l.length ∧ i = .int .i64 k) (fun i => l.length - (RowKit.intOf i).toNat)
  case atStart => exact ⟨0, Nat.zero_le _, rfl⟩
  case round =>
    obtain ⟨k, hk, rfl⟩ := hrel
    by_cases hlt : k < l.length
    · obtain ⟨x, rfl, hx, hc⟩ := HS.out k hlt
      have hz := HK.out _ (List.getElem_mem hlt)
      have i1 : (k : Int) < l.length := by omega
      generalize l[k] = t at hc hz
      go_wp2
      go_round
      case rel => exact ⟨k + 1, by omega, by go_num⟩
      case measure => simp [RowKit.intOf]; omega
    · have i1 : ¬ (k : Int) < l.length := by omega
      go_wp2
      go_ret
      exact ⟨rfl, rfl⟩
set_option maxHeartbeats 800000 in
theorem fits_long (a : Option Addr) (cap : Nat) (l : List ByteArray) (w : World) (hl : 2147483647 < l.length) (hm : l.length ≤ maxLen) :
    Calls Try.prog 4 #[.slice a l.length cap] w fun e w' => e = .returned (.bool false) ∧ w = w' := by
  unfold maxLen at hm
  go_enter Try.func4, Try.ntmps4
  go_wp2
  go_ret
  exact ⟨rfl, rfl⟩
set_option maxHeartbeats 800000 in
theorem fits_no (a : Option Addr) (cap B : Nat) (l : List ByteArray) (w : World) (hs : StrsAt w B a l) (hl : l.length ≤ 2147483647) (i0 : Nat) (hi : i0 < l.length) (hb : 2147483647 < l[i0].size) (hm : ∀ s ∈ l, s.size ≤ maxLen) (hf : ∀ j (h : j < i0), (l[j]'(by omega)).size ≤ 2147483647) :
    Calls Try.prog 4 #[.slice a l.length cap] w fun e w' => e = .returned (.bool false) ∧ w = w' := by
  unfold maxLen at hm
  have HS := Lib.hid hs
  have HF := Lib.hid hf
  have HM := Lib.hid hm
  have HB := Lib.hid hb
  clear hs hf hm hb
  go_enter Try.func4, Try.ntmps4
  go_wp2
  go_loop [10] (fun i => ∃ k : Nat, k ≤ i0 ∧ i = .int .i64 k) (fun i => l.length - (RowKit.intOf i).toNat)
  case atStart => exact ⟨0, Nat.zero_le _, rfl⟩
  case round =>
    obtain ⟨k, hk, rfl⟩ := hrel
    have hlt : k < l.length := by omega
    obtain ⟨x, rfl, hx, hc⟩ := HS.out k hlt
    have i1 : (k : Int) < l.length := by omega
    have hz := HM.out _ (List.getElem_mem hlt)
    by_cases e : k = i0
    · subst e
      have hz2 := HB.out
      generalize l[k] = t at hc hz hz2
      clear HB
      go_wp2
      go_ret
      exact ⟨rfl, rfl⟩
    · have hz2 := HF.out k (by omega)
      generalize l[k] = t at hc hz hz2
      go_wp2
      go_round
      case rel => exact ⟨k + 1, by omega, by go_num⟩
      case measure => simp [RowKit.intOf]; omega
/-- the three ways of it -/
theorem fits_ways (l : List ByteArray) : (l.length ≤ 2147483647 ∧ ∀ s ∈ l, s.size ≤ 2147483647) ∨ 2147483647 < l.length ∨
    (l.length ≤ 2147483647 ∧ ∃ i0, ∃ hi : i0 < l.length, 2147483647 < l[i0].size ∧ ∀ j (h : j < i0), (l[j]'(by omega)).size ≤ 2147483647) := by
  by_cases hl : l.length ≤ 2147483647
  · have key : ∀ m, m ≤ l.length → (∃ i0, ∃ hi : i0 < l.length, 2147483647 < l[i0].size ∧ ∀ j (h : j < i0), (l[j]'(by omega)).size ≤ 2147483647) ∨ ∀ j (h : j < m) (h2 : j < l.length), l[j].size ≤ 2147483647 := by
      intro m
      induction m with
      | zero => exact fun _ => .inr (fun j h => absurd h (Nat.not_lt_zero _))
      | succ m ih =>
        intro hm
        rcases ih (by omega) with h | h
        · exact .inl h
        · by_cases hc : 2147483647 < (l[m]'(by omega)).size
          · exact .inl ⟨m, by omega, hc, fun j hj => h j hj (by omega)⟩
          · refine .inr (fun j hj h2 => ?_)
            by_cases e : j = m
            · subst e; omega
            · exact h j (by omega) h2
    rcases key l.length (Nat.le_refl _) with h | h
    · exact .inr (.inr ⟨hl, h⟩)
    · refine .inl ⟨hl, fun s hs => ?_⟩
      obtain ⟨j, hj, rfl⟩ := List.getElem_of_mem hs
      exact h j hj hj
  · exact .inr (.inl (by omega))
set_option maxHeartbeats 400000 in
theorem even_yes (a : Option Addr) (n cap : Nat) (w : World) (hn : n ≤ 2147483647) :
    Calls Try.prog 5 #[.slice a (2 * n) cap] w fun e w' => e = .returned (.bool true) ∧ w = w' := by
  have h : ((2 * (n : Int)) % 2 == 0) = true := beq_iff_eq.2 (by omega)
  go_enter Try.func5, Try.ntmps5
  go_wp2
  go_ret
  exact ⟨by first | rfl | simp, rfl⟩
set_option maxHeartbeats 400000 in
theorem even_no (a : Option Addr) (n cap : Nat) (w : World) (hn : n ≤ 2147483647) :
    Calls Try.prog 5 #[.slice a (2 * n + 1) cap] w fun e w' => e = .returned (.bool false) ∧ w = w' := by
  have h : ((2 * (n : Int) + 1) % 2 == 0) = false := beq_eq_false_iff_ne.2 (by omega)
  go_enter Try.func5, Try.ntmps5
  go_wp2
  go_ret
  exact ⟨by first | rfl | simp, rfl⟩
end Go.Proofs.Ytlhlehmmaoadgaa
