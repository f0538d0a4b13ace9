/- The law FnDropped in its second form. -/
import Derived.Test.YteajdljmbjdbkaaPairs
namespace Go.Proofs.Yteajdljmbjdbkaa
open Go.RowKit Go.Lib
set_option linter.unusedVariables false

def dropF (o : ByteArray) (i : Nat) : ByteArray × ByteArray := (oneB (atB o i), ⟨#[]⟩)
/-- the bytes that are not dropped -/
def keptL (o : ByteArray) (l : List UInt8) : List UInt8 := l.filter fun c => !hasB o c
theorem hasB_at (o : ByteArray) (c : UInt8) : hasB o c = true ↔ ∃ i, i < o.size ∧ atB o i = c := by
  unfold hasB
  rw [decide_eq_true_iff, List.mem_iff_getElem]
  constructor
  · rintro ⟨i, hi, e⟩
    have hi2 : i < o.size := by simpa using hi
    exact ⟨i, hi2, by rw [← atB_get o i hi2]; exact e⟩
  · rintro ⟨i, hi, e⟩
    exact ⟨i, by simpa using hi, by rw [← atB_get o i hi] at e; exact e⟩
theorem rep_drop (o : ByteArray) (t : List UInt8) : rep (prs (pairsF (dropF o) o.size)) true t = keptL o t := by
  rw [pairsF_prs]
  have h1 : ∀ p ∈ (List.range o.size).map (fun i => ((dropF o i).1.data.toList, (dropF o i).2.data.toList)), p.1.length = 1 := fun p hp => by
    obtain ⟨i, _, rfl⟩ := List.mem_map.1 hp
    rfl
  rw [rep_bytes h1]
  induction t with
  | nil => rfl
  | cons c t ih =>
    rw [List.flatMap_cons, ih, keptL, keptL, List.filter_cons]
    have : tab ((List.range o.size).map (fun i => ((dropF o i).1.data.toList, (dropF o i).2.data.toList))) c = if (!hasB o c) = true then [c] else [] := by
      unfold tab
      split
      next p hp =>
        have hm := List.mem_of_find?_eq_some hp
        have hq := List.find?_some hp
        obtain ⟨i, hi, rfl⟩ := List.mem_map.1 hm
        have hi' : i < o.size := by simpa using hi
        have hc : atB o i = c := by simpa [dropF, oneB] using hq
        rw [(hasB_at o c).2 ⟨i, hi', hc⟩]
        rfl
      next hn =>
        have hno : hasB o c = false := by
          cases hb : hasB o c with
          | false => rfl
          | true =>
            obtain ⟨i, hi, hc⟩ := (hasB_at o c).1 hb
            have := List.find?_eq_none.1 hn _ (List.mem_map.2 ⟨i, List.mem_range.2 hi, rfl⟩)
            exact absurd (by simp [dropF, oneB, hc]) this
        rw [hno]
        rfl
    rw [this]
    split <;> rfl
theorem keptL_more (o : ByteArray) (s : ByteArray) (j : Nat) (h : j < s.size) : keptL o (s.data.toList.take (j + 1)) = keptL o (s.data.toList.take j) ++ (if (!hasB o (atB s j)) = true then [atB s j] else []) := by
  have h2 : j < s.data.toList.length := by simp; exact h
  rw [List.take_add_one, List.getElem?_eq_getElem h2]
  have e : s.data.toList[j] = atB s j := (show s.data.toList[j] = s[j] from rfl).trans (atB_get s j h)
  rw [e, keptL, keptL, List.filter_append]
  simp only [Option.toList_some, List.filter_cons, List.filter_nil]
def DrRel (w : World) (o : ByteArray) (v5 v19 : Value) (wr : World) : Prop := ∃ j : Nat, v19 = .int .i64 (j : Int) ∧ j ≤ o.size ∧ OwnS wr w.heap.size v5 (pairsF (dropF o) j) ∧ Below w.heap.size w wr
def DrRel2 (w : World) (o s : ByteArray) (v7 v33 : Value) (wr : World) : Prop := ∃ j : Nat, v33 = .int .i64 (j : Int) ∧ j ≤ s.size ∧ OwnB wr w.heap.size v7 (keptL o (s.data.toList.take j)) ∧ Below w.heap.size w wr
set_option maxHeartbeats 3200000 in
set_option maxRecDepth 100000 in
theorem walk_FnDropped (a0 : ByteArray) (a1 : ByteArray) (w : World) (w0 : a0.size ≤ maxLen) (b0 : a0.size ≤ 1048576) (w1 : a1.size ≤ maxLen) (b1 : a1.size ≤ 1048576) :
    Calls Try.prog 12 #[.string a0, .string a1] w fun e w' => e = .returned (.bool true) ∧ Below w.heap.size w w' := by
  have hnot : ∀ (x : Bool) (w : World), (Op.unary .not (.bool x)).run Try.prog w = .ok (.bool (!x)) w := fun _ _ => rfl
  clear w0 w1
  go_enter Try.func12, Try.ntmps12
  go_wp2_with fail
  go_loopw [5, 19] (DrRel w a0) (fun _ i _ => a0.size - (RowKit.intOf i).toNat)
  case atStart => exact ⟨0, rfl, Nat.zero_le _, OwnS.nil _ _, Below.refl _ _⟩
  case round =>
    obtain ⟨j, rfl, hj, hown, B⟩ := hrel
    have hol := pairsF_length (dropF a0) j
    have HOWN := Lib.hid hown
    have hBs := B.size
    by_cases hlt : j < a0.size
    · have e1 : (j : Int) < (a0.size : Int) := by omega
      have e2 : (j : Int) + 1 ≤ (a0.size : Int) := by omega
      have HX := Lib.hid (cut_one a0 j hlt)
      have hol2 : (pairsF (dropF a0) j).length ≤ 1099511627776 := by omega
      clear hown hol
      go_wp2_with (at_builtin; refine app_str2 (by rfl) _ _ (by rfl) wr w.heap.size (pairsF (dropF a0) j).length _ ((pairsF (dropF a0) j).map Value.string) (a0.extract j (j + 1)) ⟨#[]⟩ (by rfl) (by rfl) HOWN.out hol2 hBs ?_; intro v2 w2 hown2 hgr; have HB2 := Lib.hid (below_own B HOWN.out (Nat.le_refl _) hBs hgr); have HO2 := Lib.hid (OwnS.two (w2 := w2) (v2 := v2) hown2); clear hown2 hgr)
      go_roundw
      case rel => exact ⟨j + 1, by go_num, by omega, by have := HO2.out; rw [HX.out] at this; exact this, HB2.out⟩
      case measure => simp [RowKit.intOf]; omega
    · obtain rfl : j = a0.size := by omega
      obtain ⟨ao, c1, rfl, hcap, hst⟩ := hown.form
      rw [hol]
      obtain ⟨w1, hw1⟩ : ∃ w1, w1 = wr := ⟨_, rfl⟩
      subst hw1
      have HST := Lib.hid hst
      have HC := Lib.hid hcap
      have HL := Lib.hid hol
      have e1 : ¬ ((a0.size : Int) < (a0.size : Int)) := by omega
      clear hown hst hcap hlt hol HOWN
      go_wp2_with fail
      go_loopw [7, 33] (DrRel2 w1 a0 a1) (fun _ i _ => a1.size - (RowKit.intOf i).toNat)
      case atStart => exact ⟨0, rfl, Nat.zero_le _, OwnB.nil _ _, Below.refl _ _⟩
      case round =>
        obtain ⟨j, rfl, hj2, hown, B2⟩ := hrel
        have HOWN := Lib.hid hown
        have hBs2 := B2.size
        by_cases hlt : j < a1.size
        · have e1 : (j : Int) < (a1.size : Int) := by omega
          have HG := Lib.hid (atB_get a1 j hlt)
          have hlen : (keptL a0 (a1.data.toList.take j)).length + 1 ≤ 140737488355328 := by
            have h1 : (keptL a0 (a1.data.toList.take j)).length ≤ (a1.data.toList.take j).length := List.length_filter_le _ _
            have h2 : (a1.data.toList.take j).length ≤ j := List.length_take_le _ _
            omega
          have HM := Lib.hid (keptL_more a0 a1 j hlt)
          generalize atB a1 j = d at *
          have HB := Lib.hid (fun (W : World) => specHasByte a0 d W (by omega))
          have hgd := HG.out
          clear hown
          by_cases hm : hasB a0 d = true
          · rw [hm] at HB HM
            clear hm
            go_wp2_with (go_at_call 32; refine (HB.out _).mono ?_; rintro e w' ⟨rfl, rfl⟩)
            go_roundw
            case rel => exact ⟨j + 1, by go_num, by omega, by have := HM.out; simp only [Bool.not_true, Bool.false_eq_true, if_false, List.append_nil] at this; rw [this]; exact HOWN.out, B2⟩
            case measure => simp [RowKit.intOf]; omega
          · rw [eq_false_of_ne_true hm] at HB HM
            clear hm
            go_wp2_with (first
              | (go_at_call 32; refine (HB.out _).mono ?_; rintro e w' ⟨rfl, rfl⟩)
              | (at_builtin; refine appB_one (by rfl) _ _ 44 Try.underlying44 (by rfl) _ w1.heap.size _ (keptL a0 (a1.data.toList.take j)) _ _ (by rfl) (by rfl) HOWN.out hlen hBs2 ?_; intro v1 w1 hown1 hgr; have HB1 := Lib.hid (below_appB1 B2 HOWN.out (Nat.le_refl _) hBs2 hgr); have HO1 := Lib.hid hown1; clear hown1 hgr))
            go_roundw
            case rel => exact ⟨j + 1, by go_num, by omega, by have := HM.out; simp only [Bool.not_false, if_true] at this; rw [this]; first | exact HO1.out | (rw [← hgd]; exact HO1.out), HB1.out⟩
            case measure => simp [RowKit.intOf]; omega
        · obtain rfl : j = a1.size := by omega
          have hl1 : a1.data.toList.length = a1.size := by simp
          rw [← hl1, List.take_length] at hown
          have e1 : ¬ ((a1.size : Int) < (a1.size : Int)) := by omega
          have hback := hown.back 44 Try.underlying44
          have hrep := rep_drop a0 a1.data.toList
          have hkl : (keptL a0 a1.data.toList).length ≤ 1048576 := by
            have h1 : (keptL a0 a1.data.toList).length ≤ a1.data.toList.length := List.length_filter_le _ _
            omega
          have hkk : ∀ x ∈ pairsF (dropF a0) a0.size, x.size ≤ 2147483647 := fun x hx => by
            obtain ⟨i, _, rfl | rfl⟩ := pairsF_mem hx
            · exact (by decide : 1 ≤ 2147483647)
            · exact (by decide : 0 ≤ 2147483647)
          have HRI := Lib.hid (rpIs_yes a0.size c1 ao (pairsF (dropF a0) a0.size) a1 ⟨(keptL a0 a1.data.toList).toArray⟩ wr HL.out (HST.out.later B2) (by omega) hkk HC.out (by omega) (by rw [hrep]; omega) (by rw [hrep]))
          have BB := Lib.hid (B.trans (B2.mono hBs))
          clear hown hrep hkk hkl HOWN hlt hl1
          go_wp2_with (go_at_call 21; refine HRI.out.mono ?_; rintro e w3 ⟨rfl, hB3⟩)
          go_ret
          exact ⟨rfl, BB.out.trans (hB3.mono BB.out.size)⟩
end Go.Proofs.Yteajdljmbjdbkaa
