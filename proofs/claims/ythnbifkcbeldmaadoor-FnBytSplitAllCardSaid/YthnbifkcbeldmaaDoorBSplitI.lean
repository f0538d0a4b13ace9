/- gobytes.Split, SplitAfter; impl.BytSplit, BytSplitAfter: the pieces, told as texts. -/
import Derived.Test.YthnbifkcbeldmaaDoorBSplit
namespace Go.Proofs.YthnbifkcbeldmaaDoor
open Go Go.RowKit Go.Lib
set_option linter.unusedVariables false
set_option maxHeartbeats 1600000 in
theorem gbGenSplitAll (b1 o1 c1 b2 o2 c2 : Nat) (s sep : ByteArray) (keep : Bool) (save : Nat) (hsave : save = if keep then sep.size else 0) (w : World) (r1 : Row w b1 o1 s) (r2 : Row w b2 o2 sep) (hcap : s.size ≤ c1) (hm : c1 ≤ maxLen) (hs : s.size ≤ 2147483647) (hp : sep.size ≤ 2147483647)
    (hT : Utf8Tabs 2 3 w) :
    Calls Tryd.prog 103 #[.slice (some ⟨b1, o1, none⟩) s.size c1, .slice (some ⟨b2, o2, none⟩) sep.size c2, .int .i64 save, .int .i64 (-1)] w (RetSls w (pieces s sep (-1) keep)) := by
  by_cases hz : sep.size = 0
  · have H := Lib.hid (gbExplode b1 o1 c1 s w r1 hcap hm hs hT)
    rw [restCh_zero s sep keep hz] at H
    have he : ((sep.size : Int) == 0) = true := beq_iff_eq.2 (by omega)
    clear hz hT r1 r2 hsave
    generalize pieces s sep (-1) keep = P at *
    go_enter Tryd.func103, Tryd.ntmps103
    go_wp2_with (go_at_call 135; refine H.out.mono ?_; rintro e w' ⟨a, cap, rfl, hin, hB⟩)
    go_ret
    exact ⟨a, cap, rfl, hin, hB⟩
  · rw [← cut_text s sep keep (by omega), ← hsave]
    exact gbGenSplit b1 o1 c1 b2 o2 c2 s sep save w r1 r2 hcap hm hs hp (by omega) (by rw [hsave]; split <;> omega)
set_option maxHeartbeats 1600000 in
theorem gbSplit (b1 o1 c1 b2 o2 c2 : Nat) (s sep : ByteArray) (w : World) (r1 : Row w b1 o1 s) (r2 : Row w b2 o2 sep) (hcap : s.size ≤ c1) (hm : c1 ≤ maxLen) (hs : s.size ≤ 2147483647) (hp : sep.size ≤ 2147483647)
    (hT : Utf8Tabs 2 3 w) :
    Calls Tryd.prog 62 #[.slice (some ⟨b1, o1, none⟩) s.size c1, .slice (some ⟨b2, o2, none⟩) sep.size c2] w (RetSls w (pieces s sep (-1) false)) := by
  have H := Lib.hid (gbGenSplitAll b1 o1 c1 b2 o2 c2 s sep false 0 rfl w r1 r2 hcap hm hs hp hT)
  generalize pieces s sep (-1) false = P at *
  clear r1 r2 hT
  go_enter Tryd.func62, Tryd.ntmps62
  go_wp2_with (go_at_call 103; refine H.out.mono ?_; rintro e w' ⟨a, cap, rfl, hin, hB⟩)
  go_ret
  exact ⟨a, cap, rfl, hin, hB⟩
set_option maxHeartbeats 1600000 in
theorem gbSplitAfter (b1 o1 c1 b2 o2 c2 : Nat) (s sep : ByteArray) (w : World) (r1 : Row w b1 o1 s) (r2 : Row w b2 o2 sep) (hcap : s.size ≤ c1) (hm : c1 ≤ maxLen) (hs : s.size ≤ 2147483647) (hp : sep.size ≤ 2147483647)
    (hT : Utf8Tabs 2 3 w) :
    Calls Tryd.prog 63 #[.slice (some ⟨b1, o1, none⟩) s.size c1, .slice (some ⟨b2, o2, none⟩) sep.size c2] w (RetSls w (pieces s sep (-1) true)) := by
  have H := Lib.hid (gbGenSplitAll b1 o1 c1 b2 o2 c2 s sep true sep.size rfl w r1 r2 hcap hm hs hp hT)
  generalize pieces s sep (-1) true = P at *
  clear r1 r2 hT
  go_enter Tryd.func63, Tryd.ntmps63
  go_wp2_with (go_at_call 103; refine H.out.mono ?_; rintro e w' ⟨a, cap, rfl, hin, hB⟩)
  go_ret
  exact ⟨a, cap, rfl, hin, hB⟩
def CbRel (P : List ByteArray) (wb : World) (v5 v7 v14 : Value) (wr : World) : Prop := ∃ (k : Nat) (d : List ByteArray), v14 = .int .i64 k ∧ k ≤ P.length ∧ d.length = k ∧ Hid (d ++ P.drop k = P) ∧ wr.ownsRow wb.heap.size 9 1 v5 d.length (d.map Value.string) ∧ Below wb.heap.size wb wr
set_option maxHeartbeats 3200000 in
theorem implBytSplit (g1 o1 c1 g2 o2 c2 : Nat) (s sep : ByteArray) (w : World) (r1 : Row w g1 o1 s) (r2 : Row w g2 o2 sep) (hs : s.size ≤ 2147483647) (hp : sep.size ≤ 2147483647) (hT : Utf8Tabs 2 3 w) :
    Calls Tryd.prog 34 #[.slice (some ⟨g1, o1, none⟩) s.size c1, .slice (some ⟨g2, o2, none⟩) sep.size c2] w (RetStrs w (pieces s sep (-1) false)) := by
  have hlen : (pieces s sep (-1) false).length ≤ 2147483648 := Nat.le_trans (pieces_len s sep (-1) false) (by omega)
  have R2 := Lib.hid r2
  have HT := Lib.hid hT
  have H := Lib.hid (fun (p1 cap1 p2 cap2 : Nat) (W : World) q1 q2 h hm hB => gbSplit p1 0 cap1 p2 0 cap2 s sep W q1 q2 h hm hs hp (Utf8Tabs_below HT.out hB))
  generalize pieces s sep (-1) false = P at *
  clear hT
  go_enter Tryd.func34, Tryd.ntmps34
  go_wp2_with fail
  refine (clone g1 o1 c1 s _ (by omega) r1).mono ?_
  rintro e w1 ⟨p1, cap1, rfl, p2, p3, p4, p5, k1, q1, bel1⟩
  go_wp2_with fail
  refine (clone g2 o2 c2 sep _ (by omega) (R2.out.later bel1)).mono ?_
  rintro e w2 ⟨q2, cap2, rfl, q3, q4, q5, q6, k2, q7, bel2⟩
  have B2 := chain bel1 bel2
  have Q1 := Lib.hid (q1.later bel2)
  have Q2 := Lib.hid q7
  clear q1 q7 k1 k2
  go_wp2_with (go_at_call 62; refine (H.out _ _ _ _ _ Q1.out Q2.out p2 p3 B2).mono ?_; rintro e w4 ⟨a, cap, rfl, hin, hB4⟩; have HIN := Lib.hid hin; clear hin)
  go_loopw [5, 7, 14] (CbRel P w4) (fun _ _ i _ => P.length - (RowKit.intOf i).toNat)
  case atStart => exact ⟨0, [], rfl, Nat.zero_le _, rfl, Lib.hid rfl, World.ownsRow_nil _ _ _ _, Below.refl _ _⟩
  case round =>
    obtain ⟨k, d, rfl, hk, hd, HE, hown, hB⟩ := hrel
    have HD := Lib.hid hd
    clear hd
    by_cases hlt : k < P.length
    · have hltz : (k : Int) < (P.length : Int) := by omega
      obtain ⟨g, b, o, c, rfl, hg, hcell, hrow⟩ := HIN.out.below hB k hlt
      have hbk := hback wr b o c P[k] hrow
      have HN : Hid ((d ++ [P[k]]) ++ P.drop (k + 1) = P) := Lib.hid (by rw [List.append_assoc]; have e := HE.out; rw [List.drop_eq_getElem_cons hlt] at e; exact e)
      generalize P[k] = x at *
      have HROW := Lib.hid hrow
      clear hrow
      go_wp2_with (at_builtin; refine app_str rfl _ _ rfl _ w4.heap.size _ _ _ _ (by exact rfl) (by exact rfl) hown (by have := HD.out; omega) hB.size ?_; intro v1 w1' hown1 hg1)
      go_roundw
      case rel => exact ⟨k + 1, d ++ [x], by go_num, by omega, by rw [List.length_append, HD.out]; rfl, HN, by simpa using hown1, below_app hB hown (Nat.le_refl _) hg1⟩
      case measure => simp [RowKit.intOf]; omega
    · have hltz : ¬ (k : Int) < (P.length : Int) := by omega
      have hP : d = P := by have e := HE.out; rw [List.drop_eq_nil_of_le (by omega), List.append_nil] at e; exact e
      rw [hP] at hown
      have HO := Lib.hid hown
      clear hP hown
      go_wp2_with fail
      go_ret
      obtain ⟨a3, cap3, rfl, h3⟩ := own_strs HO.out
      exact ⟨a3, cap3, rfl, h3, chain (chain B2 hB4) hB⟩
set_option maxHeartbeats 3200000 in
theorem implBytSplitAfter (g1 o1 c1 g2 o2 c2 : Nat) (s sep : ByteArray) (w : World) (r1 : Row w g1 o1 s) (r2 : Row w g2 o2 sep) (hs : s.size ≤ 2147483647) (hp : sep.size ≤ 2147483647) (hT : Utf8Tabs 2 3 w) :
    Calls Tryd.prog 36 #[.slice (some ⟨g1, o1, none⟩) s.size c1, .slice (some ⟨g2, o2, none⟩) sep.size c2] w (RetStrs w (pieces s sep (-1) true)) := by
  have hlen : (pieces s sep (-1) true).length ≤ 2147483648 := Nat.le_trans (pieces_len s sep (-1) true) (by omega)
  have R2 := Lib.hid r2
  have HT := Lib.hid hT
  have H := Lib.hid (fun (p1 cap1 p2 cap2 : Nat) (W : World) q1 q2 h hm hB => gbSplitAfter p1 0 cap1 p2 0 cap2 s sep W q1 q2 h hm hs hp (Utf8Tabs_below HT.out hB))
  generalize pieces s sep (-1) true = P at *
  clear hT
  go_enter Tryd.func36, Tryd.ntmps36
  go_wp2_with fail
  refine (clone g1 o1 c1 s _ (by omega) r1).mono ?_
  rintro e w1 ⟨p1, cap1, rfl, p2, p3, p4, p5, k1, q1, bel1⟩
  go_wp2_with fail
  refine (clone g2 o2 c2 sep _ (by omega) (R2.out.later bel1)).mono ?_
  rintro e w2 ⟨q2, cap2, rfl, q3, q4, q5, q6, k2, q7, bel2⟩
  have B2 := chain bel1 bel2
  have Q1 := Lib.hid (q1.later bel2)
  have Q2 := Lib.hid q7
  clear q1 q7 k1 k2
  go_wp2_with (go_at_call 63; refine (H.out _ _ _ _ _ Q1.out Q2.out p2 p3 B2).mono ?_; rintro e w4 ⟨a, cap, rfl, hin, hB4⟩; have HIN := Lib.hid hin; clear hin)
  go_loopw [5, 7, 14] (CbRel P w4) (fun _ _ i _ => P.length - (RowKit.intOf i).toNat)
  case atStart => exact ⟨0, [], rfl, Nat.zero_le _, rfl, Lib.hid rfl, World.ownsRow_nil _ _ _ _, Below.refl _ _⟩
  case round =>
    obtain ⟨k, d, rfl, hk, hd, HE, hown, hB⟩ := hrel
    have HD := Lib.hid hd
    clear hd
    by_cases hlt : k < P.length
    · have hltz : (k : Int) < (P.length : Int) := by omega
      obtain ⟨g, b, o, c, rfl, hg, hcell, hrow⟩ := HIN.out.below hB k hlt
      have hbk := hback wr b o c P[k] hrow
      have HN : Hid ((d ++ [P[k]]) ++ P.drop (k + 1) = P) := Lib.hid (by rw [List.append_assoc]; have e := HE.out; rw [List.drop_eq_getElem_cons hlt] at e; exact e)
      generalize P[k] = x at *
      have HROW := Lib.hid hrow
      clear hrow
      go_wp2_with (at_builtin; refine app_str rfl _ _ rfl _ w4.heap.size _ _ _ _ (by exact rfl) (by exact rfl) hown (by have := HD.out; omega) hB.size ?_; intro v1 w1' hown1 hg1)
      go_roundw
      case rel => exact ⟨k + 1, d ++ [x], by go_num, by omega, by rw [List.length_append, HD.out]; rfl, HN, by simpa using hown1, below_app hB hown (Nat.le_refl _) hg1⟩
      case measure => simp [RowKit.intOf]; omega
    · have hltz : ¬ (k : Int) < (P.length : Int) := by omega
      have hP : d = P := by have e := HE.out; rw [List.drop_eq_nil_of_le (by omega), List.append_nil] at e; exact e
      rw [hP] at hown
      have HO := Lib.hid hown
      clear hP hown
      go_wp2_with fail
      go_ret
      obtain ⟨a3, cap3, rfl, h3⟩ := own_strs HO.out
      exact ⟨a3, cap3, rfl, h3, chain (chain B2 hB4) hB⟩
end Go.Proofs.YthnbifkcbeldmaaDoor
