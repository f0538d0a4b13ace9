/- impl.BytSplitSeq: what the iterator yields, collected. -/
import Derived.Test.YthnbifkcbeldmaaDoorBSeqT
import Derived.Test.YthnbifkcbeldmaaDoorCollect
namespace Go.Proofs.YthnbifkcbeldmaaDoor
open Go Go.RowKit Go.Lib
set_option linter.unusedVariables false
attribute [local go_sem] Oper.semAt_some
theorem prefix_mem {α : Type} {pre xs : List α} {x : α} (h : pre ++ [x] <+: xs) : x ∈ xs := h.subset (by simp)

set_option maxHeartbeats 3200000 in
set_option maxRecDepth 100000 in
theorem implBytSplitSeq (g1 o1 c1 g2 o2 c2 : Nat) (s sep : ByteArray) (w : World) (r1 : Row w g1 o1 s) (r2 : Row w g2 o2 sep) (hs : s.size ≤ 2147483647) (hp : sep.size ≤ 2147483647) (hT : Utf8Tabs 2 3 w) :
    Calls Tryd.prog 37 #[.slice (some ⟨g1, o1, none⟩) s.size c1, .slice (some ⟨g2, o2, none⟩) sep.size c2] w (RetStrs w (pieces s sep (-1) false)) := by
  obtain ⟨tF, tA⟩ := tabsL hT
  have R1 := Lib.hid r1
  have R2 := Lib.hid r2
  have HT := Lib.hid hT
  clear r1 r2 hT
  refine (callsIn_wide (n := 3)).1 ?_
  refine callsIn_of_wp_marks Tryd.func37 rfl trivial ?_ rfl
  simp only [Tryd.ntmps37, List.size_toArray, List.length_cons, List.length_nil, Nat.reduceAdd, Nat.reduceSub, Array.replicate_succ, Array.replicate_zero, List.push_toArray, List.append_toArray, List.nil_append, List.cons_append]
  gi_wp2_with (first
    | (refine ⟨trivial, ?_⟩; gi_at_call 64; refine (callsIn_wide.2 (splitSeqMkB0 _ _ _ ⟨_, _, _, rfl⟩ ⟨_, _, _, rfl⟩)).mono ?_; rintro e w' ⟨rfl, rfl⟩)
    | (refine ⟨trivial, ?_⟩; gi_at_call 44; have X := bel1; refine (callsIn_wide.2 (clone g2 o2 c2 sep w1 (by omega) ((R2.out.alloc _).later bel1))).mono ?_; rintro e w2 ⟨q2, cap2, rfl, q3, q4, q5, q6, k2, q7, bel2⟩)
    | (refine ⟨trivial, ?_⟩; gi_at_call 44; refine (callsIn_wide.2 (clone g1 o1 c1 s _ (by omega) (R1.out.alloc _))).mono ?_; rintro e w1 ⟨p1, cap1, rfl, p2, p3, p4, p5, k1, q1, bel1⟩))
  have hlen : (pieces s sep (-1) false).length ≤ 2147483648 := Nat.le_trans (pieces_len s sep (-1) false) (by omega)
  obtain ⟨i0, hi, hz0, hz1, hz2⟩ := info_parts infoS
  clear k1 k2 X
  have hzA : (w.alloc (.cells #[.slice none 0 0] 32)).heap.size = w.heap.size + 1 := by simp
  rw [hzA] at p4
  have bA : Below w.heap.size w (w.alloc (.cells #[.slice none 0 0] 32)) := (Below.refl _ w).alloc (Nat.le_refl _) _
  have b1 : Below w.heap.size w w1 := chain bA bel1
  have b2 : Below w.heap.size w w2 := chain b1 bel2
  have s1 : w.heap.size + 1 ≤ w1.heap.size := by have := bel1.size; omega
  have s2 : w1.heap.size ≤ w2.heap.size := bel2.size
  have o0 := Boxed.new w 32 (.slice none 0 0)
  have o1' : Boxed w1 w.heap.size 32 (.slice none 0 0) := (bel1.block _ o0.lt).trans o0
  have o2' : Boxed w2 w.heap.size 32 (.slice none 0 0) := (bel2.block _ o1'.lt).trans o1'
  obtain ⟨v1, hv1⟩ : ∃ v1 : Value, .slice (some ⟨p1, 0, none⟩) s.size cap1 = v1 := ⟨_, rfl⟩
  obtain ⟨v2, hv2⟩ : ∃ v2 : Value, .slice (some ⟨q2, 0, none⟩) sep.size cap2 = v2 := ⟨_, rfl⟩
  rw [hv1, hv2]
  have bO := (((o2'.alloc (.cells #[v1] 24)).alloc (.cells #[v2] 24)).alloc (.cells #[.int .i64 (0 : Nat)] 3))
  have bS := (((Boxed.new w2 24 v1).alloc (.cells #[v2] 24)).alloc (.cells #[.int .i64 (0 : Nat)] 3))
  have bP := ((Boxed.new (w2.alloc (.cells #[v1] 24)) 24 v2).alloc (.cells #[.int .i64 (0 : Nat)] 3))
  have bV := (Boxed.new ((w2.alloc (.cells #[v1] 24)).alloc (.cells #[v2] 24)) 3 (.int .i64 (0 : Nat)))
  have hB2 : Below w2.heap.size w2 (((w2.alloc (.cells #[v1] 24)).alloc (.cells #[v2] 24)).alloc (.cells #[.int .i64 (0 : Nat)] 3)) :=
    (((Below.refl _ w2).alloc (Nat.le_refl _) _).alloc (by simp) _).alloc (by simp; omega) _
  have hz : (((w2.alloc (.cells #[v1] 24)).alloc (.cells #[v2] 24)).alloc (.cells #[.int .i64 (0 : Nat)] 3)).heap.size = w2.heap.size + 3 := by simp
  simp only [World.size_alloc] at bP bV
  have hB0 := chain b2 hB2
  have Q1 := ((q1.later bel2).later hB2)
  have Q2 := (q7.later hB2)
  generalize hW0 : (((w2.alloc (.cells #[v1] 24)).alloc (.cells #[v2] 24)).alloc (.cells #[.int .i64 (0 : Nat)] 3)) = W0 at *
  have hT0 := Utf8Tabs_below HT.out hB0
  clear hW0 hB2 bel1 bel2 bA b1 b2 o0 o1' o2' q1 q7
  subst hv1 hv2
  obtain ⟨xs, hsnd, hrows, hseq⟩ : ∃ xs : List (Nat × ByteArray), xs.map (·.2) = pieces s sep (-1) false ∧ (∀ p ∈ xs, Row W0 p1 p.1 p.2) ∧
      SeqBox Tryd.prog 136 #[.pointer (some ⟨w2.heap.size + 1, 0, none⟩), .pointer (some ⟨w2.heap.size, 0, none⟩), .pointer (some ⟨w2.heap.size + 2, 0, none⟩)] (fun p : Nat × ByteArray => #[slV p1 p]) [w2.heap.size + 1, w2.heap.size, w2.heap.size + 2, 2, 3, p1, q2] w2.heap.size xs W0 := by
    by_cases h0 : sep.size = 0
    · refine ⟨rcx s cap1 0 0, by rw [rcx_snd, restCh_zero s sep false h0], rcx_row p2 0 0 (by rw [whole_piece]; exact Q1) (Nat.zero_le _), ?_⟩
      have bP' := bP
      rw [h0] at bP'
      exact splitSeqB_empty s _ cap2 cap1 p1 0 q2 W0 _ _ _ hs p2 hT0 (by omega) (by omega) Q1 (by omega) bP' bS (by omega)
    · have hok := okB_brk s.data.toList sep.data.toList (by simp; omega) _ 0 (Nat.le_refl _) (Nat.zero_le _)
      rw [← Lib.size_eq, ← Lib.size_eq] at hok
      refine ⟨spx s sep.size 0 cap1 (brk s.data.toList sep.data.toList 0) 0 0, by rw [spx_snd]; exact cut_text s sep false (by omega), spx_row p2 (Nat.zero_le _) _ 0 0 (by rw [whole_piece]; exact Q1) hok (Nat.zero_le _), ?_⟩
      exact splitSeqB_text s sep 0 cap1 p1 0 q2 0 cap2 W0 _ _ _ hs hp (by omega) (Nat.zero_le _) p2 p3 Q1 Q2 (by omega) (by omega) bP bS bV (by omega) (by omega)
  have HS := Lib.hid hsnd
  rw [← hsnd] at hlen
  rw [List.length_map] at hlen
  have HR := Lib.hid hrows
  clear hrows hsnd hT0 Q1 Q2 bP bS bV
  refine rangeFunc_box (gf := 136) (lb := #[.pointer (some ⟨w2.heap.size + 1, 0, none⟩), .pointer (some ⟨w2.heap.size, 0, none⟩), .pointer (some ⟨w2.heap.size + 2, 0, none⟩)]) rfl (enters_of Tryd.func136 (by kernel_rfl) rfl)
    (fun _ => rfl) (by intro b hb; simp at hb; omega) (by omega) hseq
    (fun l W => Collects w (w2.heap.size + 3) w.heap.size 32 (l.map (·.2)) W ∧ W.heap[p1]? = W0.heap[p1]?)
    (fun l A B row h hg hr => by
      rw [hz] at hr
      refine ⟨collects_abides (by omega) (Nat.le_refl _) (show w2.heap.size ≠ w.heap.size by omega) (by omega) (by omega) _ A B row h.1 hg hr, ?_⟩
      have hn := h.1.2.2
      refine (hg.block p1 (by omega) (fun e => ?_)).trans h.2
      rcases hr p1 e.symm with h' | ⟨h', _⟩ <;> omega)
    ⟨⟨⟨_, bO, World.ownsRow_nil _ _ _ _⟩, hB0, by omega⟩, rfl⟩
    (fun x => { tmps := #[.slice (some ⟨g1, o1, none⟩) s.size c1, .slice (some ⟨g2, o2, none⟩) sep.size c2, undef, undef, .slice none 0 0, .pointer (some ⟨w.heap.size, 0, none⟩), slV p1 x, .slice (some ⟨g1, o1, none⟩) s.size c1, .slice (some ⟨p1, 0, none⟩) s.size cap1, .slice (some ⟨g2, o2, none⟩) sep.size c2, .slice (some ⟨q2, 0, none⟩) sep.size cap2, .func (.func 136) #[] #[.pointer (some ⟨w2.heap.size + 1, 0, none⟩), .pointer (some ⟨w2.heap.size, 0, none⟩), .pointer (some ⟨w2.heap.size + 2, 0, none⟩)], slV p1 x, undef, undef, undef, undef, undef, undef], defers := [] }) ?assign ?body ?done
  case assign =>
    intro l x W K hK
    gi_wp2
    exact hK
  case body =>
    rintro l pre x W hpre ⟨⟨⟨v, hv, hrow⟩, hB, hn⟩, hp1⟩
    have hc := hv.cell
    have hpl : pre.length + 1 ≤ xs.length := by have := hpre.length_le; simpa using this
    have hbk : (convert 24 9 (slV p1 x)).run Tryd.prog W = .ok (.string x.2) W := hback W p1 x.1 x.2.size x.2 ((HR.out x (prefix_mem hpre)).kept hp1)
    have hlm : (pre.map (·.2)).length = pre.length := List.length_map _
    gi_wp2_with (gi_at_builtin; refine wpListIn_append_own _ rfl _ _ 32 rfl (w2.heap.size + 3) 9 i0 (.string ByteArray.empty) 1 16 Tryd.underlying32 hi hz0 hz1 hz2 rfl (by decide) _ _ _ rfl (hrow.alloc _) ⟨W.heap.size, 0, none⟩ 1 1 [.string x.2] rfl rfl (cell_one_new _ _ _) (by simp [Value.oneCell']) (by unfold maxLen; omega) (by omega) (by simp; omega) ?_; intro v' w1' hown' hgrow _; obtain ⟨g', cap', rfl⟩ := ownsRow_succ hown'; obtain ⟨hv1, hfin⟩ := collects_append (bs := [w2.heap.size + 1, w2.heap.size, w2.heap.size + 2, 2, 3, p1, q2]) (by omega) (Nat.le_refl _) (by intro b hb; simp at hb; omega) hv hrow hB hn hown' hgrow; have hc1 := hv1.cell; have hf1 := hv1.frozen)
    rw [List.length_map] at hfin
    refine ⟨hfin.1, hfin.2.1, ?_, (hfin.2.1 p1 (by simp)).trans hp1⟩
    rw [List.map_append]
    exact hfin.2.2
  case done =>
    rintro D W hD ⟨hC, _⟩ hK
    obtain ⟨a, cap, hv, hr1, hr2⟩ := collects_ret hC hK (by omega)
    rw [HS.out] at hv hr1
    have hc := hv.cell
    gi_wp2
    refine ⟨by simp, .inl ⟨_, _, rfl, run_takeDeferred hK, ?_⟩⟩
    exact ⟨_, results_tmp rfl _ _ _, a, cap, rfl, hr1, hr2⟩
end Go.Proofs.YthnbifkcbeldmaaDoor
