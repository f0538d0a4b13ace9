/- The law FnSplitPieces: the walk returns true. -/
import Derived.Test.YtocegdangdcicaaDoorLawSplit
import Derived.Test.YtocegdangdcicaaDoorLawContains
namespace Go.Proofs.YtocegdangdcicaaDoor
open Go.RowKit Go.Lib
set_option linter.unusedVariables false

theorem no_before {x sep : List UInt8} {j : Nat} (h : index x sep = j) (hj : j ≤ x.length) : ∀ i, i < j → occAt x sep i = false := fun i => by
  induction i using Nat.strongRecOn with
  | ind i ih =>
    intro hi
    cases ho : occAt x sep i with
    | false => rfl
    | true =>
      have := index_first (by omega) ho (fun k hk => ih k hk (by omega))
      omega
theorem take_none {x sep : List UInt8} {j : Nat} (h1 : 1 ≤ sep.length) (h : index x sep = j) (hj : j ≤ x.length) : index (x.take j) sep = -1 := by
  apply index_none
  intro i hi
  cases ho : occAt (x.take j) sep i with
  | false => rfl
  | true =>
    unfold occAt at ho
    rw [List.isPrefixOf_iff_prefix, List.drop_take] at ho
    have hl := ho.length_le
    rw [List.length_take] at hl
    have hp := ho.trans (List.take_prefix _ _)
    have := no_before h hj i (by omega)
    unfold occAt at this
    rw [← List.isPrefixOf_iff_prefix] at hp
    rw [hp] at this
    cases this
theorem cut_clean (s sep : ByteArray) (h1 : 1 ≤ sep.size) : ∀ n f, s.size - f ≤ n → f ≤ s.size → ∀ p ∈ cutPieces s sep.size 0 (brk s.data.toList sep.data.toList f) f, index p.data.toList sep.data.toList = -1
  | n, f, hn, hf => by
    have h1' : 1 ≤ sep.data.toList.length := by simpa using h1
    have hfl : f ≤ s.data.toList.length := by simpa using hf
    rcases indexB_cases (s.extract f s.size) sep with hm | ⟨i, hi, hroom⟩
    · have hix : index (s.data.toList.drop f) sep.data.toList = -1 := by rw [indexB, extract_to_end] at hm; exact hm
      rw [brk_none h1' hfl hix, cutPieces]
      intro p hp
      rw [List.mem_singleton] at hp
      rw [hp, extract_to_end]
      exact hix
    · have hix : index (s.data.toList.drop f) sep.data.toList = i := by rw [indexB, extract_to_end] at hi; exact hi
      have hsz : (s.extract f s.size).size = s.size - f := by rw [ByteArray.size_extract]; omega
      rw [brk_some h1' hfl hix, cutPieces]
      have e : sep.data.toList.length = sep.size := by simp
      have e2 : s.data.toList.length = s.size := by simp
      intro p hp
      rw [List.mem_cons] at hp
      rcases hp with rfl | hp
      · rw [Nat.add_zero, extract_data, Nat.add_sub_cancel_left]
        exact take_none h1' hix (by rw [List.length_drop]; omega)
      · cases n with
        | zero => omega
        | succ n =>
          rw [e] at hp
          exact cut_clean s sep h1 n (f + i + sep.size) (by omega) (by omega) p hp
theorem pieces_clean (s sep : ByteArray) (h1 : 1 ≤ sep.size) : ∀ p ∈ pieces s sep (-1) false, hasB p sep = false := fun p hp => by
  rw [← pieces_text s sep (-1) false (by decide) h1] at hp
  have hb : breaks s sep (-1 - 1) = brk s.data.toList sep.data.toList 0 := by
    unfold breaks
    rw [cutMost_neg (by decide), if_neg (by omega)]
  rw [hb] at hp
  unfold hasB
  rw [cut_clean s sep h1 _ 0 (Nat.le_refl _) (Nat.zero_le _) p hp]
  rfl
theorem pieces_size (s sep : ByteArray) (n : Int) : ∀ p ∈ pieces s sep n false, p.size ≤ s.size := by
  have hc : ∀ l f, ∀ p ∈ cutPieces s sep.size 0 l f, p.size ≤ s.size := fun l => by
    induction l with
    | nil => intro f p hp; rw [cutPieces, List.mem_singleton] at hp; rw [hp, ByteArray.size_extract]; omega
    | cons x r ih =>
      intro f p hp
      rw [cutPieces, List.mem_cons] at hp
      rcases hp with rfl | hp
      · rw [ByteArray.size_extract]; omega
      · exact ih _ p hp
  intro p hp
  unfold pieces at hp
  split at hp
  · cases hp
  · exact hc _ _ p hp
theorem pieces_pos (s sep : ByteArray) (h : ¬ (s.size = 0 ∧ sep.size = 0)) : 0 < (pieces s sep (-1) false).length := by
  unfold pieces
  rw [if_neg (by simp only [show ¬ (-1 : Int) = 0 by decide, false_or]; exact h), cutPieces_length]
  omega

set_option maxHeartbeats 1600000 in
theorem walk_FnSplitPieces (a0 a1 : ByteArray) (w : World) (w0 : a0.size ≤ maxLen) (w1 : a1.size ≤ maxLen) (htab : Lib.Utf8Tabs 0 1 w) :
    Calls Tryd.prog 7 #[.string a0, .string a1] w fun e w' => e = .returned (.bool true) ∧ Below w.heap.size w w' := by
  unfold maxLen at w0 w1
  by_cases h0 : 2147483647 < a0.size
  · clear htab
    go_enter Tryd.func7, Tryd.ntmps7
    go_wp2
    go_ret
    exact ⟨rfl, Below.refl _ _⟩
  by_cases h1 : 2147483647 < a1.size
  · clear htab
    go_enter Tryd.func7, Tryd.ntmps7
    go_wp2
    go_ret
    exact ⟨rfl, Below.refl _ _⟩
  have H1 := Lib.hid (implSplit a0 a1 w (by omega) (by omega) htab)
  have hl : (pieces a0 a1 (-1) false).length ≤ 4294967296 := by have := pieces_len a0 a1 (-1) false; omega
  have HS := Lib.hid (pieces_size a0 a1 (-1))
  have hab : hasB ⟨#[97, 98]⟩ ⟨#[98]⟩ = true := by decide
  have hee : (a1.toList.isEmpty = false ∧ Hid (∀ p ∈ pieces a0 a1 (-1) false, hasB p a1 = false) ∧ 0 < (pieces a0 a1 (-1) false).length) ∨ (a1.toList.isEmpty = true ∧ 0 < (pieces a0 a1 (-1) false).length) ∨ (a1.toList.isEmpty = true ∧ a0.toList.isEmpty = true ∧ (pieces a0 a1 (-1) false).length = 0) := by
    rw [empty_of, empty_of]
    by_cases hz : a1.size = 0
    · by_cases hy : a0.size = 0
      · refine .inr (.inr ⟨decide_eq_true hz, decide_eq_true hy, ?_⟩)
        unfold pieces
        rw [if_pos (.inr ⟨hy, hz⟩)]
        rfl
      · exact .inr (.inl ⟨decide_eq_true hz, pieces_pos a0 a1 (by omega)⟩)
    · exact .inl ⟨decide_eq_false hz, pieces_clean a0 a1 (by omega), pieces_pos a0 a1 (by omega)⟩
  clear htab
  generalize pieces a0 a1 (-1) false = P at *
  rcases hee with ⟨he, HC, hpos⟩ | ⟨he, hpos⟩ | ⟨he, he0, hpos⟩
  all_goals
    go_enter Tryd.func7, Tryd.ntmps7
    go_wp2_with (go_at_call 17; refine H1.out.mono ?_; rintro e w2 ⟨a2, cap2, rfl, hin2, hB2⟩)
    have HI := Lib.hid hin2
    clear hin2
    go_loopw [21] (fun i wr => ∃ k : Nat, i = .int .i64 k ∧ k ≤ P.length ∧ w2 = wr) (fun i _ => P.length - (RowKit.intOf i).toNat)
    case atStart => exact ⟨0, rfl, Nat.zero_le _, rfl⟩
    case round =>
      obtain ⟨k, rfl, hk, rfl⟩ := hrel
      by_cases hlt : k < P.length
      · have hltz : (k : Int) < P.length := by omega
        obtain ⟨g1, rfl, _, e1⟩ := HI.out k hlt
        have hsz := HS.out _ (List.getElem_mem hlt)
        try have hno := HC.out _ (List.getElem_mem hlt)
        go_wp2_with (go_at_call 19; refine (implContains _ _ (by omega) (by omega) _).mono ?_; rintro e w' ⟨rfl, rfl⟩)
        all_goals
          go_roundw
          case rel => first | exact ⟨k + 1, rfl, by omega, rfl⟩ | exact ⟨k + 1, rfl, by omega, trivial⟩
          case measure => simp [RowKit.intOf]; omega
      · have hltz : ¬ (k : Int) < P.length := by omega
        go_wp2_with (go_at_call 19; refine (implContains _ _ (by decide) (by decide) _).mono ?_; rintro e w' ⟨rfl, rfl⟩)
        all_goals (go_ret; first | exact ⟨rfl, hB2⟩ | (refine ⟨?_, hB2⟩; simp_all))
end Go.Proofs.YtocegdangdcicaaDoor
