/- SePieces at every number (at the least one n-1 goes round). -/
import Derived.Test.YtocegdangdcicaaDoorSplitAll
namespace Go.Proofs.YtocegdangdcicaaDoor
open Go.RowKit Go.Lib
set_option linter.unusedVariables false

theorem breaks_min (s sep : ByteArray) (hs : s.size ≤ 2147483647) : breaks s sep (-9223372036854775808 - 1) = breaks s sep 9223372036854775807 := by
  have h := breaks_len s sep (-9223372036854775808 - 1)
  unfold breaks at h ⊢
  generalize (if sep.size = 0 then (starts s).tail else brk s.data.toList sep.data.toList 0) = l at *
  rw [cutMost_neg (by decide)] at h ⊢
  unfold cutMost
  rw [if_neg (by decide), List.take_of_length_le]
  have e : (9223372036854775807 : Int).toNat = 9223372036854775807 := rfl
  rw [e]
  omega
set_option maxHeartbeats 3200000 in
theorem sePieces_min (s sep : ByteArray) (n m : Int) (keep : Bool) (hw : wrap64 (n - 1) = m) (h0 : n ≠ 0) (hbm : breaks s sep (n - 1) = breaks s sep m) (hs : s.size ≤ 2147483647) (hp : sep.size ≤ 2147483647) (w : World) :
    Calls Tryd.prog 15 #[.string s, .string sep, .int .i64 n, .bool keep] w (RetStrs w (pieces s sep n keep)) := by
  have z0 : (n == 0) = false := beq_eq_false_iff_ne.2 h0
  by_cases he2 : s.size = 0 ∧ sep.size = 0
  · have E := Lib.hid (show pieces s sep n keep = [] by unfold pieces; rw [if_pos (.inr he2)])
    have e1 : s.toList.isEmpty = true := by rw [empty_of]; exact decide_eq_true he2.1
    have e2 : sep.toList.isEmpty = true := by rw [empty_of]; exact decide_eq_true he2.2
    clear he2 h0 hbm
    rw [E.out]
    go_enter Tryd.func15, Tryd.ntmps15
    go_wp2_with fail
    go_ret
    exact ⟨none, 0, rfl, fun i h => absurd h (Nat.not_lt_zero _), Below.refl _ _⟩
  have hee : s.toList.isEmpty = false ∨ (s.toList.isEmpty = true ∧ sep.toList.isEmpty = false) := by
    rw [empty_of, empty_of]
    by_cases h : s.size = 0
    · exact .inr ⟨decide_eq_true h, decide_eq_false (fun h' => he2 ⟨h, h'⟩)⟩
    · exact .inl (decide_eq_false h)
  have E := Lib.hid (show pieces s sep n keep = cutPieces s sep.size (if keep then sep.size else 0) (breaks s sep m) 0 by rw [← hbm]; unfold pieces; exact if_neg (by simp only [h0, false_or]; exact he2))
  have HOK := Lib.hid (okB_breaks s sep m)
  have hbl := breaks_len s sep m
  clear he2 h0 hbm
  rw [E.out]
  clear E
  obtain ⟨save, hsv⟩ : ∃ save, (if keep then sep.size else 0) = save := ⟨_, rfl⟩
  rw [hsv]
  have SV : keep = false ∧ save = 0 ∨ keep = true ∧ save = sep.size := by cases keep <;> simp_all
  clear hsv
  rcases SV with ⟨rfl, sv⟩ | ⟨rfl, sv⟩
  all_goals
    have SV := Lib.hid sv
    clear sv
    rcases hee with e1 | ⟨e1, e2⟩
    all_goals
      go_enter Tryd.func15, Tryd.ntmps15
      go_wp2_with (go_at_call 28; refine (seBreaks s sep m (by omega) (by omega) _).mono ?_; rintro e w2 ⟨v2, rfl, hown2, hB2⟩; obtain ⟨a2, cap2, rfl, hc2, hr2⟩ := own_ints hown2; have HR := Lib.hid hr2; clear hr2)
      generalize breaks s sep m = bs at *
      go_loopw [9, 10, 30] (PcRel s sep.size save bs w2) (fun _ _ i _ => bs.length - (RowKit.intOf i).toNat)
      case atStart => exact ⟨0, 0, [], rfl, Nat.zero_le _, rfl, HOK.out, Nat.zero_le _, rfl, rfl, World.ownsRow_nil _ _ _ _, Below.refl _ _⟩
      case round =>
        obtain ⟨k, f, d, rfl, hkl, rfl, hok, hfs, hd, he, hown, hB⟩ := hrel
        by_cases hk : k < bs.length
        · obtain ⟨g, rfl, hg, hcell⟩ := HR.out k hk
          have hcell2 : wr.cell? ⟨g, k, none⟩ = some (.int .i64 (bs[k] : Int)) := by rw [hB.cell (p := ⟨g, k, none⟩) hg]; exact hcell
          have hkI : (k : Int) < bs.length := by omega
          have hok2 : f ≤ bs[k] ∧ bs[k] + sep.size ≤ s.size := by
            have := hok; rw [List.drop_eq_getElem_cons hk] at this; exact ⟨this.1, this.2.1⟩
          obtain ⟨o1, o2⟩ := hok2
          have j1 : (f : Int) ≤ bs[k] := by omega
          have j2 : (bs[k] : Int) ≤ s.size := by omega
          have j3 : (bs[k] : Int) + sep.size ≤ s.size := by omega
          have j4 : (f : Int) ≤ bs[k] + sep.size := by omega
          have HD := Lib.hid hd
          have HE := Lib.hid he
          have HO := Lib.hid hok
          clear hcell hd he hok
          go_wp2_with (at_builtin; refine app_str rfl _ _ rfl _ w2.heap.size _ _ _ _ (by exact rfl) (by exact rfl) hown (by have := HD.out; omega) hB.size ?_; intro v1 w1 hown1 hg1)
          go_roundw
          case rel => exact pcRel_next hk HO.out HD.out HE.out hB hown (by rw [SV.out]; exact hown1) hg1
          case measure => simp [RowKit.intOf]; omega
        · have hkI : ¬ (k : Int) < bs.length := by omega
          have hke : bs.drop k = [] := List.drop_eq_nil_of_le (by omega)
          rw [hke, cutPieces] at he
          have HE := Lib.hid he
          have HD := Lib.hid hd
          clear he hok hd hke
          go_wp2_with (at_builtin; refine app_str rfl _ _ rfl _ w2.heap.size _ _ _ _ (by exact rfl) (by exact rfl) hown (by have := HD.out; omega) hB.size ?_; intro v1 w1 hown1 hg1)
          go_ret
          have hB1 := below_app hB hown (Nat.le_refl _) hg1
          have hown2 : w1.ownsRow w2.heap.size 9 1 v1 (d ++ [s.extract f s.size]).length ((d ++ [s.extract f s.size]).map Value.string) := by simpa using hown1
          rw [HE.out] at hown2
          obtain ⟨a3, cap3, rfl, h3⟩ := own_strs hown2
          exact ⟨a3, cap3, rfl, h3, below2 hB2 hB1⟩
theorem sePieces_any (s sep : ByteArray) (n : Int) (keep : Bool) (hs : s.size ≤ 2147483647) (hp : sep.size ≤ 2147483647) (hn1 : -9223372036854775808 ≤ n) (hn2 : n ≤ 9223372036854775807) (w : World) :
    Calls Tryd.prog 15 #[.string s, .string sep, .int .i64 n, .bool keep] w (RetStrs w (pieces s sep n keep)) := by
  by_cases h : n = -9223372036854775808
  · subst h
    exact sePieces_min s sep _ 9223372036854775807 keep (by unfold wrap64; omega) (by decide) (breaks_min s sep hs) hs hp w
  · exact sePieces s sep n keep (by omega) (by omega) (by omega) hn2 w
end Go.Proofs.YtocegdangdcicaaDoor
