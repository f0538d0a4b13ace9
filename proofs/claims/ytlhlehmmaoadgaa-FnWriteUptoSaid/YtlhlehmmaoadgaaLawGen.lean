/- (*genericReplacer).Replace, ZZGeneric, impl.Generic; the law FnGeneric in its second form. -/
import Derived.Test.YtlhlehmmaoadgaaAgree
import Derived.Test.YtlhlehmmaoadgaaGenRepl
import Derived.Test.YtlhlehmmaoadgaaSpecRepl
import Derived.Test.YtlhlehmmaoadgaaBulk
namespace Go.Proofs.Ytlhlehmmaoadgaa
open Go.RowKit Go.Lib
set_option linter.unusedVariables false

/-- what a walk over short texts is told: the list's texts in memory -/
theorem strs_of_short {w : World} {a : Option Addr} {len cap : Nat} {z : List ByteArray} (h : IsStrs w a len cap z) (hb : Short len z) : ∃ l : List ByteArray, l.length = len ∧ StrsAt w w.heap.size a l ∧ len ≤ 1048576 ∧ (∀ s ∈ l, s.size ≤ 1048576) ∧ len ≤ cap := by
  rcases h with ⟨rfl, rfl, rfl, rfl⟩ | ⟨x, rfl, h1, h2, h3, h4, h5⟩
  · exact ⟨[], rfl, fun i h => absurd h (Nat.not_lt_zero _), Nat.zero_le _, (fun s h => by cases h), Nat.le_refl _⟩
  · refine ⟨z.take len, by rw [List.length_take]; omega, fun i hi => ?_, hb.1, hb.2, h1⟩
    rw [List.length_take] at hi
    have hc := h4 i (by omega)
    refine ⟨x, rfl, ?_, ?_⟩
    · have := World.block_lt_of_cell? w _ hc
      rwa [add_block] at this
    · rw [hc, List.getElem_take]
      simp [List.getD, show i < z.length by omega]
theorem rep_small {l : List ByteArray} {M : Nat} (hk : ∀ s ∈ l, s.size ≤ M) (s : ByteArray) : (rep (prs l) true s.data.toList).length ≤ (2 * s.size + 1) * (M + 1) := by
  refine rep_le (fun p hp => ?_) _ true _ (by simp)
  obtain ⟨i, hi, rfl⟩ := prs_mem l p hp
  have h1 : l.getD (2 * i + 1) ⟨#[]⟩ = l[2 * i + 1] := by simp [List.getD, hi]
  have h2 := hk _ (List.getElem_mem hi)
  show (l.getD (2 * i + 1) ⟨#[]⟩).data.toList.length ≤ M
  rw [h1, show l[2 * i + 1].data.toList.length = l[2 * i + 1].size by simp]
  exact h2
theorem rep_small2 {l : List ByteArray} (hk : ∀ s ∈ l, s.size ≤ 1048576) (s : ByteArray) (hs : s.size ≤ 4194304) : (rep (prs l) true s.data.toList).length ≤ 70368744177664 := by
  refine Nat.le_trans (rep_small hk s) ?_
  have : (2 * s.size + 1) * (1048576 + 1) ≤ 8388609 * 1048577 := Nat.mul_le_mul (by omega) (by omega)
  omega
theorem rep_small1 {l : List ByteArray} (hk : ∀ s ∈ l, s.size ≤ 1048576) (s : ByteArray) (hs : s.size ≤ 1048576) : (rep (prs l) true s.data.toList).length ≤ 4398046511104 := by
  refine Nat.le_trans (rep_small hk s) ?_
  have : (2 * s.size + 1) * (1048576 + 1) ≤ 2097153 * 1048577 := Nat.mul_le_mul (by omega) (by omega)
  omega

set_option maxHeartbeats 1600000 in
set_option maxRecDepth 100000 in
theorem genReplace (rb n : Nat) (l : List ByteArray) (s : ByteArray) (w : World) (hG : GenAt w w.heap.size rb l n) (hs : s.size < 2147483648) (hl : l.length = 2 * n)
    (hk : ∀ s ∈ l, s.size ≤ 2147483647) (hout : (rep (prs l) true s.data.toList).length ≤ 140737488355328) :
    Calls Try.prog 51 #[.pointer (some ⟨rb, 0, none⟩), .string s] w fun e w' => e = .returned (.string ⟨(rep (prs l) true s.data.toList).toArray⟩) ∧ Below w.heap.size w w' := by
  obtain ⟨i0, hi, hz0, hz1, hz2⟩ := info_parts infoByte
  have hmk : ∀ u : World, (Instr.makeSlice 113 (.int .i64 0) (.int .i64 (s.size : Int))).run Try.prog u =
      .ok (.slice (some ⟨u.heap.size, 0, none⟩) 0 s.size) (u.alloc (.cells (madeCells #[.int .u8 0] s.size) 5)) := fun u => by
    have h := run_make (P := Try.prog) u 113 5 i0 (.int .u8 0) Try.underlying113 hi hz0 .i64 .i64 0 (s.size : Int) (by omega) (by omega) (by rw [hz2]; omega) (by omega)
    simpa [hz1, Value.cells] using h
  have HG := Lib.hid hG
  have HL := Lib.hid hl
  have HK := Lib.hid hk
  clear hG hl hk
  go_enter Try.func51, Try.ntmps51
  go_wp2_with fail
  have hA := Asw.new w s.size (by unfold maxLen; omega) w.heap.size (Nat.le_refl _)
  have hB0 : Below w.heap.size w ((w.alloc (.cells (madeCells #[.int .u8 0] s.size) 5)).alloc (.cells #[.slice (some ⟨w.heap.size, 0, none⟩) 0 s.size] 113)) := ((Below.refl _ w).alloc (Nat.le_refl _) _).alloc (by simp) _
  clear hmk
  generalize (w.alloc (.cells (madeCells #[.int .u8 0] s.size) 5)).alloc (.cells #[.slice (some ⟨w.heap.size, 0, none⟩) 0 s.size] 113) = w2 at hA hB0 ⊢
  go_wp2_with (go_at_call 52; refine (genWriteAsw rb w.heap.size (w.heap.size + 1) n l s [] _ (HG.out.lower hB0) hA hB0.size hs HL.out HK.out (by simpa using hout)).mono ?_; rintro e w3 ⟨rfl, hA3, hB3⟩; obtain ⟨_, v3, hbk3, hown3, _⟩ := hA3; have hc3 := Lib.cell_of_heap hbk3 0; simp only [List.getElem?_toArray, List.getElem?_cons_zero] at hc3; rw [List.nil_append] at hown3; have hbk := hown3.back 113 Try.underlying113)
  go_ret
  exact ⟨rfl, hB0.trans hB3⟩

/-- what makeGenericReplacer leaves -/
theorem gen_made {w w' : World} {l : List ByteArray} {n : Nat} {e : Ending} (h : MadeGen l n w e w') : e = .returned (.pointer (some ⟨w.heap.size, 0, none⟩)) ∧ (∀ w2, AgreeOn w.heap.size w'.heap.size w' w2 → GenAt w2 w'.heap.size w.heap.size l n) ∧ Below w.heap.size w w' := by
  obtain ⟨u, fp, rfl, T, R, F, FP, B, HU, g, K⟩ := h
  refine ⟨rfl, fun w2 ha => ⟨⟨u, fp, ⟨g, 0, none⟩, ?_, ?_, fun x hx => (F x hx).2, fun x hx => ?_, (ha.cell (Nat.le_refl _) R.lt).trans K⟩, R.lt⟩, B⟩
  · exact T.same fun x hx => SameBlk.of_block (ha x (F x hx).1 (F x hx).2)
  · exact ⟨World.block_lt_of_cell? w2 _ ((ha.cell (Nat.le_refl _) R.lt).trans R.size), (ha.cell (Nat.le_refl _) R.lt).trans R.size, fun x => (ha.cell (Nat.le_refl _) R.lt).trans (R.map x), R.le, R.inj, R.room⟩
  · obtain ⟨cs, t, hc⟩ := FP x hx
    exact ⟨cs, t, (ha x (F x hx).1 (F x hx).2).trans hc⟩


end Go.Proofs.Ytlhlehmmaoadgaa
