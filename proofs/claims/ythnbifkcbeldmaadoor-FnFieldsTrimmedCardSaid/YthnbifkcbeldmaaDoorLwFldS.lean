/- FnStrFieldsSeq: impl.StrFields, impl.StrFieldsSeq; the law. -/
import Derived.Test.YthnbifkcbeldmaaDoorFldSeq
import Derived.Test.YthnbifkcbeldmaaDoorCollect
import Derived.Test.YthnbifkcbeldmaaDoorSplitAll
namespace Go.Proofs.YthnbifkcbeldmaaDoor
open Go Go.RowKit Go.Lib Go.Proofs
set_option linter.unusedVariables false
attribute [local go_sem] Oper.semAt_some
variable {T oT R oR : Nat}

theorem spans_len (p : Nat → Bool) (s : ByteArray) : ∀ f pos st acc, acc.length ≤ pos → pos ≤ s.size → (spansFromP p s f pos st acc).1.length ≤ s.size
  | 0, pos, st, acc, h, hp => by show acc.length ≤ _; omega
  | f + 1, pos, st, acc, h, hp => by
    unfold spansFromP
    split
    · rename_i hlt
      have h1 := Lib.width_pos s pos
      have h2 := decode_w_le s pos hlt
      split
      · cases st with
        | some a => exact spans_len p s f _ none _ (by simp; omega) h2
        | none => exact spans_len p s f _ none _ (by omega) h2
      · cases st with
        | some a => exact spans_len p s f _ _ _ (by omega) h2
        | none => exact spans_len p s f _ _ _ (by omega) h2
    · show acc.length ≤ _; omega
theorem fields_len (p : Nat → Bool) (s : ByteArray) : (goFieldsP p s).length ≤ s.size + 1 := by
  have h := spans_len p s s.size 0 none [] (Nat.le_refl _) (Nat.zero_le _)
  unfold goFieldsP spansOfP closeSpans
  rw [List.length_map]
  split
  · rw [List.length_append, List.length_singleton]; omega
  · omega
theorem fields_ab : (goFieldsP isSpaceR ⟨#[97, 32, 98]⟩).length = 2 := by rw [goFields_count]; decide

theorem gFields (s : ByteArray) (w : World) (hs : s.size ≤ 2147483647) (hF : FT 0 2 3 1 T oT R oR w) :
    Calls Tryd.prog 54 #[.string s] w (RetStrs w (goFieldsP isSpaceR s)) := by
  have hi9 : (Tryd.prog.info? 9).map (fun i => (i.zero, i.size, i.bytes)) = some (some (.string ByteArray.empty), 1, 16) := infoS
  have hi154 : (Tryd.prog.info? 106).map (fun i => (i.zero, i.size, i.bytes)) = some (some (.agg #[.int .i64 0, .int .i64 0]), 2, 16) := by kernel_rfl
  by_cases ha : ∀ b ∈ s.data.toList, b.toNat < 128
  · refine (gFieldsAscii hi9 s w (by omega) (fun j b hb => ha b (List.mem_of_getElem? hb)) hF.sp).mono ?_
    rintro e w' ⟨rfl, rfl⟩
    have hv := goFields_values s
    have hc := goFields_count s
    rw [fieldsD_ascii _ ha] at hv hc
    have hN := fields_len isSpaceR s
    have ho := World.ownsRow_lit (base := w.heap.size) (e := 9) (size := 1) w ((Lib.fields s.data.toList).map fun l => Value.string ⟨l.toArray⟩).toArray (Lib.fields s.data.toList).length (Nat.le_refl _) (by unfold maxLen; omega) (by simp)
    have ho2 : (w.alloc (.cells ((Lib.fields s.data.toList).map fun l => Value.string ⟨l.toArray⟩).toArray 9)).ownsRow w.heap.size 9 1 (.slice (some ⟨w.heap.size, 0, none⟩) (Lib.fields s.data.toList).length (Lib.fields s.data.toList).length) (goFieldsP isSpaceR s).length ((goFieldsP isSpaceR s).map Value.string) := by
      rw [hv, hc]; simpa using ho
    obtain ⟨a, cap, e, hin⟩ := own_strs ho2
    exact ⟨a, cap, by rw [e], hin, (Below.refl _ w).alloc (Nat.le_refl _) _⟩
  · have hhigh : ∃ (j : Nat) (b : UInt8), s.data.toList[j]? = some b ∧ 128 ≤ b.toNat := by
      apply Classical.byContradiction
      intro hn
      refine ha fun b hb => Classical.byContradiction fun h => hn ?_
      obtain ⟨j, hj⟩ := List.getElem?_of_mem hb
      exact ⟨j, b, hj, by omega⟩
    refine (gFieldsBeyond hi9 hi154 s w (by omega) hhigh hF.sp hF.white).mono ?_
    rintro e w' ⟨A, rfl, hA, hown, hB⟩
    obtain ⟨a, cap, e, hin⟩ := own_strs hown
    exact ⟨a, cap, by rw [e], hin, hB⟩
set_option maxHeartbeats 1600000 in
theorem implFields (s : ByteArray) (w : World) (hs : s.size ≤ 2147483647) (hF : FT 0 2 3 1 T oT R oR w) :
    Calls Tryd.prog 26 #[.string s] w (RetStrs w (goFieldsP isSpaceR s)) := by
  have H := Lib.hid (gFields s w hs hF)
  have hl : (goFieldsP isSpaceR s).length ≤ 4294967296 := by have := fields_len isSpaceR s; omega
  generalize goFieldsP isSpaceR s = P at *
  clear hF
  go_enter Tryd.func26, Tryd.ntmps26
  go_wp2_with (first
    | (go_at_call 54; refine H.out.mono ?_; rintro e w' ⟨a, cap, rfl, hin, hB⟩)
    | (go_at_call 53; refine (cloneS a cap P w' hl hin).mono ?_; rintro e w2 ⟨a2, cap2, rfl, hin2, hB2⟩))
  go_ret
  exact ⟨a2, cap2, rfl, hin2, below2 hB hB2⟩
theorem fieldsSeqMk (s : ByteArray) (w : World) :
    Calls Tryd.prog 52 #[.string s] w fun e w' => e = .returned (.func (.func 87) #[] #[.pointer (some ⟨w.heap.size, 0, none⟩)]) ∧ w' = w.alloc (.cells #[.string s] 9) := by
  go_enter Tryd.func52, Tryd.ntmps52
  go_wp2_with fail
  go_ret
  exact ⟨rfl, rfl⟩
set_option maxHeartbeats 3200000 in
set_option maxRecDepth 100000 in
theorem implFieldsSeq (s : ByteArray) (w : World) (hs : s.size ≤ 2147483647) (hF : FT 0 2 3 1 T oT R oR w) :
    Calls Tryd.prog 25 #[.string s] w (RetStrs w (goFieldsP isSpaceR s)) := by
  refine (callsIn_wide (n := 3)).1 ?_
  refine callsIn_of_wp_marks Tryd.func25 rfl trivial ?_ rfl
  simp only [Tryd.ntmps25, List.size_toArray, List.length_cons, List.length_nil, Nat.reduceAdd, Nat.reduceSub, Array.replicate_succ, Array.replicate_zero, List.push_toArray, List.append_toArray, List.nil_append, List.cons_append]
  gi_wp2_with ((refine ⟨trivial, ?_⟩; gi_at_call 52; refine (callsIn_wide.2 (fieldsSeqMk s _)).mono ?_; rintro e w' ⟨rfl, rfl⟩))
  have hlen : (goFieldsP isSpaceR s).length ≤ 2147483648 := Nat.le_trans (fields_len isSpaceR s) (by omega)
  obtain ⟨i0, hi, hz0, hz1, hz2⟩ := info_parts infoS
  have hlt := hF.lt
  have bO := ((Boxed.new w 32 (.slice none 0 0)).alloc (.cells #[.string s] 9))
  have bS := (Boxed.new (w.alloc (.cells #[.slice none 0 0] 32)) 9 (.string s))
  have hB0 : Below w.heap.size w ((w.alloc (.cells #[.slice none 0 0] 32)).alloc (.cells #[.string s] 9)) := ((Below.refl _ w).alloc (Nat.le_refl _) _).alloc (by simp) _
  have hz : ((w.alloc (.cells #[.slice none 0 0] 32)).alloc (.cells #[.string s] 9)).heap.size = w.heap.size + 2 := by simp
  simp only [World.size_alloc] at bS
  generalize hW0 : ((w.alloc (.cells #[.slice none 0 0] 32)).alloc (.cells #[.string s] 9)) = W0 at *
  clear hW0
  have hseq := fieldsSeq_core s W0 (w.heap.size + 1) hs bS (hF.below hB0)
  generalize goFieldsP isSpaceR s = xs at *
  clear hF
  refine rangeFunc_box (gf := 87) (lb := #[.pointer (some ⟨w.heap.size + 1, 0, none⟩)]) rfl (enters_of Tryd.func87 (by kernel_rfl) rfl)
    (fun _ => rfl) (fun b hb => (List.mem_cons.1 hb).elim (fun e => by omega) (fun h => by have := hlt b h; omega)) (by omega) hseq
    (Collects w (w.heap.size + 2) w.heap.size 32) (by rw [hz]; exact collects_abides (by omega) (Nat.le_refl _) (by omega) (by omega) (by omega)) ⟨⟨_, bO, World.ownsRow_nil _ _ _ _⟩, hB0, by omega⟩
    (fun x => { tmps := #[.string s, undef, .slice none 0 0, .pointer (some ⟨w.heap.size, 0, none⟩), .string x, .string s, .func (.func 87) #[] #[.pointer (some ⟨w.heap.size + 1, 0, none⟩)], .string x, undef, undef, undef, undef, undef], defers := [] }) ?assign ?body ?done
  case assign =>
    intro l x W K hK
    gi_wp2
    exact hK
  case body =>
    rintro l pre x W hpre ⟨⟨v, hv, hrow⟩, hB, hn⟩
    have hc := hv.cell
    have hpl : pre.length + 1 ≤ xs.length := by have := hpre.length_le; simpa using this
    have HLT := Lib.hid hlt
    clear hlt
    gi_wp2_with (gi_at_builtin; refine wpListIn_append_own _ rfl _ _ 32 rfl (w.heap.size + 2) 9 i0 (.string ByteArray.empty) 1 16 Tryd.underlying32 hi hz0 hz1 hz2 rfl (by decide) _ _ _ rfl (hrow.alloc _) ⟨W.heap.size, 0, none⟩ 1 1 [.string x] rfl rfl (cell_one_new _ _ _) (by simp [Value.oneCell']) (by unfold maxLen; omega) (by omega) (by have := hB.size; simp; omega) ?_; intro v' w1 hown' hgrow _; obtain ⟨g', cap', rfl⟩ := ownsRow_succ hown'; obtain ⟨hv1, hfin⟩ := collects_append (bs := [w.heap.size + 1, 0, 2, 3, 1, T, R]) (by omega) (Nat.le_refl _) (fun b hb => (List.mem_cons.1 hb).elim (fun e => by omega) (fun h => by have := HLT.out b h; omega)) hv hrow hB hn hown' hgrow; have hc1 := hv1.cell; have hf1 := hv1.frozen)
    exact hfin
  case done =>
    rintro D W hD hC hK
    obtain ⟨a, cap, hv, hr1, hr2⟩ := collects_ret hC hK (by omega)
    have hc := hv.cell
    gi_wp2
    refine ⟨by simp, .inl ⟨_, _, rfl, run_takeDeferred hK, ?_⟩⟩
    exact ⟨_, results_tmp rfl _ _ _, a, cap, rfl, hr1, hr2⟩
set_option maxHeartbeats 1600000 in
theorem walk_FnStrFieldsSeq (a0 : ByteArray) (w : World) (w0 : a0.size ≤ maxLen) (hF : FT 0 2 3 1 T oT R oR w) :
    Calls Tryd.prog 6 #[.string a0] w fun e w' => e = .returned (.bool true) ∧ Below w.heap.size w w' := by
  unfold maxLen at w0
  by_cases h0 : 2147483647 < a0.size
  · clear hF
    go_enter Tryd.func6, Tryd.ntmps6
    go_wp2
    go_ret
    exact ⟨rfl, Below.refl _ _⟩
  have HF := Lib.hid hF
  have H1 := Lib.hid (implFieldsSeq a0 w (by omega) hF)
  have H2 : Hid (∀ W, Below w.heap.size w W → Calls Tryd.prog 26 #[.string a0] W (RetStrs W (goFieldsP isSpaceR a0))) := Lib.hid (fun W hB => implFields a0 W (by omega) (HF.out.below hB))
  have hl : (goFieldsP isSpaceR a0).length ≤ 4294967296 := by have := fields_len isSpaceR a0; omega
  have HA := Lib.hid fields_ab
  clear hF
  generalize goFieldsP isSpaceR a0 = P at *
  go_enter Tryd.func6, Tryd.ntmps6
  go_wp2_with (first
    | (go_at_call 26; refine (H2.out w2 hB2).mono ?_; rintro e w3 ⟨a3, cap3, rfl, hin3, hB3⟩)
    | (go_at_call 24; refine (seSame a2 a3 cap2 cap3 P w3 hl (hin2.below hB3) hin3).mono ?_; rintro e w4 ⟨rfl, rfl⟩)
    | (go_at_call 25; have hB3' := hB3; refine (implFieldsSeq ⟨#[97, 32, 98]⟩ w3 (by decide) (HF.out.below (below2 hB2 hB3))).mono ?_; rintro e w5 ⟨a5, cap5, rfl, hin5, hB5⟩; rw [HA.out])
    | (go_at_call 25; refine H1.out.mono ?_; rintro e w2 ⟨a2, cap2, rfl, hin2, hB2⟩))
  all_goals (go_ret; exact ⟨rfl, below2 (below2 hB2 hB3) hB5⟩)
end Go.Proofs.YthnbifkcbeldmaaDoor
