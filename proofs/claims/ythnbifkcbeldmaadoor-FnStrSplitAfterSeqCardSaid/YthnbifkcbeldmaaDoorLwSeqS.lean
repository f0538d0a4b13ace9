/- FnStrSplitAfterSeq: what the iterator yields, collected; the law. -/
import Derived.Test.YthnbifkcbeldmaaDoorSeqStr
import Derived.Test.YthnbifkcbeldmaaDoorCollect
import Derived.Test.YthnbifkcbeldmaaDoorSplit
namespace Go.Proofs.YthnbifkcbeldmaaDoor
open Go Go.RowKit Go.Lib
set_option linter.unusedVariables false
attribute [local go_sem] Oper.semAt_some

set_option maxHeartbeats 3200000 in
set_option maxRecDepth 100000 in
theorem implSplitAfterSeq (s sep : ByteArray) (w : World) (hs : s.size ≤ 2147483647) (hp : sep.size ≤ 2147483647) (hT : Utf8Tabs 2 3 w) :
    Calls Tryd.prog 27 #[.string s, .string sep] w (RetStrs w (pieces s sep (-1) true)) := by
  refine (callsIn_wide (n := 3)).1 ?_
  refine callsIn_of_wp_marks Tryd.func27 rfl trivial ?_ rfl
  simp only [Tryd.ntmps27, List.size_toArray, List.length_cons, List.length_nil, Nat.reduceAdd, Nat.reduceSub, Array.replicate_succ, Array.replicate_zero, List.push_toArray, List.append_toArray, List.nil_append, List.cons_append]
  gi_wp2_with ((refine ⟨trivial, ?_⟩; gi_at_call 55; refine (callsIn_wide.2 (splitAfterSeqMk s sep _)).mono ?_; rintro e w' ⟨rfl, rfl⟩))
  have hlen : (pieces s sep (-1) true).length ≤ 2147483648 := Nat.le_trans (pieces_len s sep (-1) true) (by omega)
  obtain ⟨i0, hi, hz0, hz1, hz2⟩ := info_parts infoS
  obtain ⟨tF, tA⟩ := tabs_lt hT
  have bO := ((((Boxed.new w 32 (.slice none 0 0)).alloc (.cells #[.string s] 9)).alloc (.cells #[.string sep] 9)).alloc (.cells #[.int .i64 sep.size] 3))
  have bS := (((Boxed.new (w.alloc (.cells #[.slice none 0 0] 32)) 9 (.string s)).alloc (.cells #[.string sep] 9)).alloc (.cells #[.int .i64 sep.size] 3))
  have bP := ((Boxed.new ((w.alloc (.cells #[.slice none 0 0] 32)).alloc (.cells #[.string s] 9)) 9 (.string sep)).alloc (.cells #[.int .i64 sep.size] 3))
  have bV := (Boxed.new (((w.alloc (.cells #[.slice none 0 0] 32)).alloc (.cells #[.string s] 9)).alloc (.cells #[.string sep] 9)) 3 (.int .i64 sep.size))
  have hB0 : Below w.heap.size w ((((w.alloc (.cells #[.slice none 0 0] 32)).alloc (.cells #[.string s] 9)).alloc (.cells #[.string sep] 9)).alloc (.cells #[.int .i64 sep.size] 3)) :=
    ((((Below.refl _ w).alloc (Nat.le_refl _) _).alloc (by simp) _).alloc (by simp; omega) _).alloc (by simp; omega) _
  have hz : ((((w.alloc (.cells #[.slice none 0 0] 32)).alloc (.cells #[.string s] 9)).alloc (.cells #[.string sep] 9)).alloc (.cells #[.int .i64 sep.size] 3)).heap.size = w.heap.size + 4 := by simp
  simp only [World.size_alloc] at bS bP bV
  generalize hW0 : ((((w.alloc (.cells #[.slice none 0 0] 32)).alloc (.cells #[.string s] 9)).alloc (.cells #[.string sep] 9)).alloc (.cells #[.int .i64 sep.size] 3)) = W0 at *
  clear hW0
  have hT0 := Utf8Tabs_below hT hB0
  have hseq : SeqBox Tryd.prog 123 #[.pointer (some ⟨w.heap.size + 1 + 1, 0, none⟩), .pointer (some ⟨w.heap.size + 1, 0, none⟩), .pointer (some ⟨w.heap.size + 1 + 2, 0, none⟩)] (fun x : ByteArray => #[.string x]) [w.heap.size + 1 + 1, w.heap.size + 1, w.heap.size + 1 + 2, 2, 3] (w.heap.size + 1) (pieces s sep (-1) true) W0 := by
    by_cases h0 : sep.size = 0
    · rw [← restChars_zero s sep true h0]
      exact splitSeq_empty s sep sep.size W0 _ _ _ hs h0 hT0 (by omega) (by omega) bP bS (by omega)
    · rw [← rest_text s sep true (by omega)]
      exact splitSeq_text s sep sep.size W0 _ _ _ hs hp (by omega) (Nat.le_refl _) bP bS bV (by omega) (by omega)
  generalize pieces s sep (-1) true = xs at *
  clear hT hT0
  refine rangeFunc_box (gf := 123) (lb := #[.pointer (some ⟨w.heap.size + 1 + 1, 0, none⟩), .pointer (some ⟨w.heap.size + 1, 0, none⟩), .pointer (some ⟨w.heap.size + 1 + 2, 0, none⟩)]) rfl (enters_of Tryd.func123 (by kernel_rfl) rfl)
    (fun _ => rfl) (by intro b hb; simp at hb; omega) (by omega) hseq
    (Collects w (w.heap.size + 4) w.heap.size 32) (by rw [hz]; exact collects_abides (by omega) (Nat.le_refl _) (by omega) (by omega) (by omega)) ⟨⟨_, bO, World.ownsRow_nil _ _ _ _⟩, hB0, by omega⟩
    (fun x => { tmps := #[.string s, .string sep, undef, undef, .slice none 0 0, .pointer (some ⟨w.heap.size, 0, none⟩), .string x, .string s, .string sep, .func (.func 123) #[] #[.pointer (some ⟨w.heap.size + 1 + 1, 0, none⟩), .pointer (some ⟨w.heap.size + 1, 0, none⟩), .pointer (some ⟨w.heap.size + 1 + 2, 0, none⟩)], .string x, undef, undef, undef, undef, undef], defers := [] }) ?assign ?body ?done
  case assign =>
    intro l x W K hK
    gi_wp2
    exact hK
  case body =>
    rintro l pre x W hpre ⟨⟨v, hv, hrow⟩, hB, hn⟩
    have hc := hv.cell
    have hpl : pre.length + 1 ≤ xs.length := by have := hpre.length_le; simpa using this
    gi_wp2_with (gi_at_builtin; refine wpListIn_append_own _ rfl _ _ 32 rfl (w.heap.size + 4) 9 i0 (.string ByteArray.empty) 1 16 Tryd.underlying32 hi hz0 hz1 hz2 rfl (by decide) _ _ _ rfl (hrow.alloc _) ⟨W.heap.size, 0, none⟩ 1 1 [.string x] rfl rfl (cell_one_new _ _ _) (by simp [Value.oneCell']) (by unfold maxLen; omega) (by omega) (by have := hB.size; simp; omega) ?_; intro v' w1 hown' hgrow _; obtain ⟨g', cap', rfl⟩ := ownsRow_succ hown'; obtain ⟨hv1, hfin⟩ := collects_append (bs := [w.heap.size + 1 + 1, w.heap.size + 1, w.heap.size + 1 + 2, 2, 3]) (by omega) (Nat.le_refl _) (by intro b hb; simp at hb; omega) hv hrow hB hn hown' hgrow; have hc1 := hv1.cell; have hf1 := hv1.frozen)
    exact hfin
  case done =>
    rintro D W hD hC hK
    obtain ⟨a, cap, hv, hr1, hr2⟩ := collects_ret hC hK (by omega)
    have hc := hv.cell
    gi_wp2
    refine ⟨by simp, .inl ⟨_, _, rfl, run_takeDeferred hK, ?_⟩⟩
    exact ⟨_, results_tmp rfl _ _ _, a, cap, rfl, hr1, hr2⟩
end Go.Proofs.YthnbifkcbeldmaaDoor
