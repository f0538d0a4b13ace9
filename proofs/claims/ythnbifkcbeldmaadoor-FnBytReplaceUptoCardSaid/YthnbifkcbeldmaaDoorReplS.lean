/- strings.Replace: what it returns. -/
import Derived.Test.YthnbifkcbeldmaaDoorRj
import Derived.Test.YthnbifkcbeldmaaDoorCount
import Derived.Test.YthnbifkcbeldmaaDoorBld
import Derived.Test.YthnbifkcbeldmaaDoorShelf
import Derived.Lib.Replace
import Derived.Lib.ReplaceLaws
import Derived.Deep.LoopGhost
namespace Go.Proofs.YthnbifkcbeldmaaDoor
open Go.RowKit Go.Lib
set_option linter.unusedVariables false
theorem beq_yes {a b : ByteArray} (h : a = b) : (a.toList == b.toList) = true := by rw [h]; exact beq_self_eq_true _
theorem beq_no {a b : ByteArray} (h : a ≠ b) : (a.toList == b.toList) = false := by
  rw [beq_eq_false_iff_ne, Lib.toList_data, Lib.toList_data]
  intro e
  apply h
  rw [← Lib.mk_data a, ← Lib.mk_data b, e]
theorem replaceNone (s old new : ByteArray) (n : Int) (w : World) (h : old = new ∨ n = 0) :
    Calls Tryd.prog 50 #[.string s, .string old, .string new, .int .i64 n] w fun e w' => e = .returned (.string s) ∧ w' = w := by
  by_cases he : old = new
  · have hbeq : (old.toList == new.toList) = true := beq_yes he
    go_enter Tryd.func50, Tryd.ntmps50
    go_wp2
    go_ret
    exact ⟨rfl, rfl⟩
  · have hbeq : (old.toList == new.toList) = false := beq_no he
    obtain rfl : n = 0 := h.resolve_left he
    go_enter Tryd.func50, Tryd.ntmps50
    go_wp2
    go_ret
    exact ⟨rfl, rfl⟩

set_option maxHeartbeats 16000000 in
set_option maxRecDepth 1000000 in
theorem replaceSome (s old new : ByteArray) (n : Int) (w : World)
    (hs : s.size < 4294967281) (hz : old.size ≤ 4294967296) (h1 : 1 ≤ old.size) (hne : old ≠ new) (hn0 : n ≠ 0) (hc0 : Lib.countB s old ≠ 0)
    (hlen : s.size + Lib.countB s old * new.size ≤ 70368744177664) :
    Calls Tryd.prog 50 #[.string s, .string old, .string new, .int .i64 n] w fun e w' =>
      e = .returned (.string ⟨(Lib.replaceK old.data.toList new.data.toList (Lib.replaceNum s.data.toList old.data.toList n) s.data.toList).toArray⟩) ∧ Below w.heap.size w w' := by
  have hC : Calls Tryd.prog 80 #[.string s, .string old] w fun e w' => e = .returned (.int .i64 (Lib.countB s old : Int)) ∧ w' = w := by
    rw [← cntB_more s old h1]
    exact (gsCount_ne s old (by omega) (by omega) (by omega) w).mono (fun _ _ ⟨a, b⟩ => ⟨a, b.symm⟩)
  have hmul := Lib.countB_mul_le old h1 s.size s (Nat.le_refl _)
  obtain ⟨K, hK⟩ : ∃ K : Nat, Lib.replaceNum s.data.toList old.data.toList n = K := ⟨_, rfl⟩
  rw [hK]
  obtain ⟨cn, hcn⟩ : ∃ cn : Nat, Lib.countB s old = cn := ⟨_, rfl⟩
  rw [hcn] at hC hlen hc0 hmul
  have hcn' : Lib.count s.data.toList old.data.toList = cn := hcn
  have hbeq : (old.toList == new.toList) = false := beq_no hne
  have hnz : (n == 0) = false := beq_eq_false_iff_ne.2 hn0
  have hcz : ((cn : Int) == 0) = false := beq_eq_false_iff_ne.2 (by omega)
  have ho0 : (0 : Int) < (old.size : Int) := by omega
  have hlenL : s.data.toList.length = s.size := (Lib.size_eq s).symm
  have hlenO : old.data.toList.length = old.size := (Lib.size_eq old).symm
  -- K, whichever way it is come by
  have hK1 : 1 ≤ K ∧ K ≤ cn ∧ ((n < 0 ∨ (cn : Int) < n) → K = cn) ∧ (¬ (n < 0 ∨ (cn : Int) < n) → n = (K : Int)) := by
    unfold Lib.replaceNum at hK
    rw [hcn'] at hK
    by_cases hcase : n < 0 ∨ (cn : Int) < n
    · rw [if_pos hcase] at hK
      exact ⟨by omega, by omega, fun _ => hK.symm, fun h => absurd hcase h⟩
    · rw [if_neg hcase] at hK
      exact ⟨by omega, by omega, fun h => absurd h hcase, fun _ => by omega⟩
  obtain ⟨hK1, hKc, hKa, hKb⟩ := hK1
  have hKo : K * old.size ≤ s.size := Nat.le_trans (Nat.mul_le_mul_right _ hKc) hmul
  have hKs : K ≤ s.size := Nat.le_trans (Nat.le_mul_of_pos_right K (by omega)) hKo
  have hKn : s.size + K * new.size ≤ 70368744177664 := by have := Nat.mul_le_mul_right new.size hKc; omega
  have hga := Lib.grow_arg s.size K new.size old.size hK1 hKo (by omega)
  have hKcount : K ≤ Lib.count (s.data.toList.drop 0) old.data.toList := by rw [List.drop_zero, hcn']; exact hKc
  clear hK hcn hcn' hmul hlen
  -- slot 3 holds K, whichever way it is come by: SETTLED AHEAD OF THE WALK
  have hdisj : (K = cn ∧ (n < 0 ∨ (cn : Int) < n)) ∨ (n = (K : Int) ∧ ¬ (n < 0 ∨ (cn : Int) < n)) := by
    by_cases hcase : n < 0 ∨ (cn : Int) < n
    · exact Or.inl ⟨hKa hcase, hcase⟩
    · exact Or.inr ⟨hKb hcase, hcase⟩
  clear hKa hKb
  -- (✋ as a Boolean equation, AHEAD of the walk: so that the frame bears 'true' at the loop's head already: else the round's end does not meet the relation's frame: slot 51)
  have hod : decide (0 < old.size) = true := decide_eq_true (by omega)
  rcases hdisj with ⟨rfl, hcase⟩ | ⟨rfl, hcase⟩
  all_goals (
    go_enter Tryd.func50, Tryd.ntmps50
    go_wp2_with (first | (go_at_call 80; refine hC.mono ?_; rintro e w' ⟨rfl, hw⟩; rw [hw]))
    all_goals (
    clear hC
    try rw [hga]
    refine (bldGrow w.heap.size w.heap.size _ [] _ (Bld.new w) (by simp only [List.length_nil]; omega) (by simp)).mono ?_
    rintro e w1 ⟨rfl, hb0, hb1⟩
    have H1 := Lib.hid hb0.bld
    have Hb1 := Lib.hid (((Below.refl w.heap.size w).alloc (Nat.le_refl _) _).trans hb1)
    clear hb0 hb1 hga
    go_wp2_with fail
    go_loopg [11, 53] K (fun g s11 s53 wx => ∃ (i start : Nat) (acc : List UInt8), s53 = .int .i64 i ∧ s11 = .int .i64 start ∧ i + g = K ∧ start ≤ s.size ∧
      Hid (Bld wx w.heap.size w.heap.size acc) ∧ Hid (Below w.heap.size w wx) ∧ Hid (acc ++ Lib.replaceK old.data.toList new.data.toList g (s.data.toList.drop start) = Lib.replaceK old.data.toList new.data.toList K s.data.toList) ∧
      g ≤ Lib.count (s.data.toList.drop start) old.data.toList ∧ acc.length + (s.size - start) + g * new.size ≤ s.size + K * new.size)
    case atStart => exact ⟨0, 0, [], rfl, rfl, by omega, Nat.zero_le _, H1, Hb1, Lib.hid (by simp), hKcount, by simp⟩
    case round =>
      obtain ⟨i, start, acc, rfl, rfl, hig, hst, HB, HW, HR, hgc, hbd⟩ := hrel
      have hBw : w.heap.size ≤ wr.heap.size := HW.out.size
      have c1 : (0 : Int) ≤ (start : Int) := by omega
      have c2 : (start : Int) ≤ (s.size : Int) := by omega
      cases gk with
      | zero =>
        -- all K are replaced: 'b.WriteString(s[start:]); return b.String()'
        have hiK : ¬ ((i : Int) < (K : Int)) := by omega
        go_wp2_with fail
        refine (bldWrite w.heap.size w.heap.size acc (s.extract start s.size) wr HB.out (by rw [ByteArray.size_extract]; omega) hBw).mono ?_
        rintro e w3 ⟨rfl, h3, hb3⟩
        rw [Lib.extract_to_end] at h3
        have hfin : acc ++ s.data.toList.drop start = Lib.replaceK old.data.toList new.data.toList K s.data.toList := HR.out
        rw [hfin] at h3
        have H3 := Lib.hid h3.bld
        have Hb3 := Lib.hid (HW.out.trans hb3)
        have hBw3 : w.heap.size ≤ w3.heap.size := Hb3.out.size
        clear h3 hb3 hfin
        go_wp2_with fail
        refine (Tryd.Builder_String_any w.heap.size w.heap.size _ w3 H3.out hBw3).mono ?_
        rintro e w5 ⟨rfl, hb5⟩
        have Hb5 := Lib.hid (Hb3.out.trans hb5)
        clear hb5
        go_wp2
        go_ret
        exact ⟨rfl, Hb5.out⟩
      | succ g =>
        have hiK : (i : Int) < (K : Int) := by omega
        obtain ⟨j, hj⟩ := Lib.index_of_count (s := s.data.toList.drop start) (old := old.data.toList) (by omega)
        have hroom : j + old.size ≤ s.size - start := by
          have := Lib.index_room (s.data.toList.drop start) old.data.toList (by rw [hj]; omega)
          rw [hj, List.length_drop, hlenL, hlenO] at this
          omega
        have hsucc : (g + 1) * new.size = g * new.size + new.size := Nat.succ_mul _ _
        have c3 : (start : Int) ≤ (start : Int) + (j : Int) := by omega
        have c4 : (start : Int) + (j : Int) ≤ (s.size : Int) := by omega
        have hnext : acc ++ (s.extract start (start + j)).data.toList ++ new.data.toList = acc ++ (s.data.toList.drop start).take j ++ new.data.toList := by
          rw [Lib.extract_data, Nat.add_sub_cancel_left]
        have hrep : (acc ++ (s.data.toList.drop start).take j ++ new.data.toList) ++ Lib.replaceK old.data.toList new.data.toList g (s.data.toList.drop (start + j + old.size)) = Lib.replaceK old.data.toList new.data.toList K s.data.toList := by
          rw [← HR.out, Lib.replaceK_hit _ _ g _ j hj, List.drop_drop, hlenO]
          simp only [List.append_assoc, Nat.add_assoc]
        have hcnt : g ≤ Lib.count (s.data.toList.drop (start + j + old.size)) old.data.toList := by
          have := Lib.count_hit (s := s.data.toList.drop start) (sub := old.data.toList) (i := j) (fun e => by rw [e] at hlenO; simp at hlenO; omega) hj
          rw [List.drop_drop, hlenO] at this
          rw [show start + j + old.size = start + (j + old.size) by omega]
          omega
        have htl : ((s.data.toList.drop start).take j).length = j := by rw [List.length_take, List.length_drop, hlenL]; omega
        have Hn := Lib.hid hnext
        have Hrep := Lib.hid hrep
        clear hnext hrep HR
        go_wp2_with (first | (go_at_call 82; refine (gsIndex _ _ (by rw [ByteArray.size_extract]; omega) (by omega) _).mono ?_; rintro e w' ⟨rfl, rfl⟩; rw [Lib.extract_to_end, hj]))
        refine (bldWrite w.heap.size w.heap.size acc (s.extract start (start + j)) wr HB.out (by rw [ByteArray.size_extract]; omega) hBw).mono ?_
        rintro e w3 ⟨rfl, h3, hb3⟩
        have hBw3 : w.heap.size ≤ w3.heap.size := Nat.le_trans hBw hb3.size
        have H3 := Lib.hid h3.bld
        have Hb3 := Lib.hid hb3
        clear h3 hb3
        go_wp2_with fail
        refine (bldWrite w.heap.size w.heap.size _ new w3 H3.out (by rw [List.length_append, ← Lib.size_eq, ByteArray.size_extract]; omega) hBw3).mono ?_
        rintro e w4 ⟨rfl, h4, hb4⟩
        rw [Hn.out] at h4
        have H4 := Lib.hid h4.bld
        have Hb4 := Lib.hid ((HW.out.trans Hb3.out).trans hb4)
        clear h4 hb4
        go_wp2
        go_roundg g
        case measure => omega
        case rel => exact ⟨i + 1, start + j + old.size, _, by first | rfl | (simp; unfold wrap64; omega), by first | rfl | simp | (simp; unfold wrap64; omega), by omega, by omega, H4, Hb4, Hrep, hcnt, by simp only [List.length_append, htl, ← Lib.size_eq]; omega⟩))

end Go.Proofs.YthnbifkcbeldmaaDoor
