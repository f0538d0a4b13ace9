/- gostrings.IndexRune: the index of a code point; the law FnStrContainsRune. -/
import Derived.Test.YthnbifkcbeldmaaDoorIndex
import Derived.Deep.QuietTactic
import Derived.BigQuiet
import Derived.Test.YthnbifkcbeldmaaDoorShelf
import Derived.Test.YthnbifkcbeldmaaDoorScopeFwd
namespace Go.Proofs.YthnbifkcbeldmaaDoor
open Go.RowKit Go.Lib
set_option linter.unusedVariables false

theorem strIndexByte (s : ByteArray) (c : UInt8) (hs : s.size < 4611686018427387904) (w : World) :
    Calls Tryd.prog 112 #[.string s, .int .u8 (c.toNat : Int)] w fun e w' => e = .returned (.int .i64 (Lib.indexByte s.data.toList c)) ∧ w' = w := by
  have hc := c.toNat_lt
  have e : (c.toNat : Int).toNat.toUInt8 = c := by simp
  have HC := Lib.hid (slIndexByte s (c.toNat : Int) hs (by omega) (by omega))
  rw [e] at HC
  go_enter Tryd.func112, Tryd.ntmps112
  go_wp2_with (go_at_call 138; refine (HC.out _).mono ?_; rintro e w' ⟨rfl, rfl⟩)
  go_ret
  exact ⟨rfl, rfl⟩
theorem fullOcc {s rs : ByteArray} {i last : Nat} (hn : rs.size = last + 1) (hl : last ≤ i) (hi : i < s.size) (h : ∀ t, t ≤ last → s.data.toList[i - t]? = rs.data.toList[last - t]?) : occAt s.data.toList rs.data.toList (i - last) = true := by
  unfold occAt
  rw [List.isPrefixOf_iff_prefix]
  have e : rs.data.toList = (s.data.toList.drop (i - last)).take (last + 1) := by
    apply List.ext_getElem?
    intro j
    rw [List.getElem?_take, List.getElem?_drop]
    by_cases hj : j < last + 1
    · rw [if_pos hj]
      have := h (last - j) (by omega)
      rw [show last - (last - j) = j by omega, show i - (last - j) = i - last + j by omega] at this
      exact this.symm
    · rw [if_neg hj]
      rw [List.getElem?_eq_none]
      rw [← Lib.size_eq]; omega
  rw [e]
  exact List.take_prefix _ _
theorem missOcc {s rs : ByteArray} {i last t : Nat} (hn : rs.size = last + 1) (hl : last ≤ i) (ht : t ≤ last) (h : s.data.toList[i - t]? ≠ rs.data.toList[last - t]?) : occAt s.data.toList rs.data.toList (i - last) = false := by
  cases ho : occAt s.data.toList rs.data.toList (i - last) with
  | false => rfl
  | true =>
    refine absurd ?_ h
    unfold occAt at ho
    obtain ⟨r, hr⟩ := List.isPrefixOf_iff_prefix.1 ho
    have hlen : last - t < rs.data.toList.length := by rw [← Lib.size_eq]; omega
    have h2 : (s.data.toList.drop (i - last))[last - t]? = rs.data.toList[last - t]? := by rw [← hr, List.getElem?_append_left hlen]
    rw [List.getElem?_drop, show i - last + (last - t) = i - t by omega] at h2
    exact h2
theorem noneAfter {s rs : ByteArray} {i last : Nat} (hn : rs.size = last + 1) (hl : last ≤ i) (hno : NoOcc s.data.toList rs.data.toList (i - last)) (hb : ∀ k, i ≤ k → s.data.toList[k]? ≠ rs.data.toList[last]?) : Lib.index s.data.toList rs.data.toList = -1 := by
  refine index_none fun j _ => ?_
  by_cases hj : j < i - last
  · exact hno j hj
  · have := missOcc (s := s) (rs := rs) (i := j + last) (t := 0) hn (by omega) (Nat.zero_le _) (by have := hb (j + last) (by omega); simpa using this)
    rwa [Nat.add_sub_cancel] at this
theorem skipTo {s rs : ByteArray} {i last o : Nat} (hn : rs.size = last + 1) (hl : last ≤ i) (hno : NoOcc s.data.toList rs.data.toList (i - last)) (hb : ∀ k, i ≤ k → k < i + (o + 1) → s.data.toList[k]? ≠ rs.data.toList[last]?) : NoOcc s.data.toList rs.data.toList (i + (o + 1) - last) := fun j hj => by
  by_cases h : j < i - last
  · exact hno j h
  · have := missOcc (s := s) (rs := rs) (i := j + last) (t := 0) hn (by omega) (Nat.zero_le _) (by have := hb (j + last) (by omega) (by omega); simpa using this)
    rwa [Nat.add_sub_cancel] at this
theorem nextNo {s rs : ByteArray} {i last t : Nat} (hn : rs.size = last + 1) (hl : last ≤ i) (ht : t ≤ last) (hno : NoOcc s.data.toList rs.data.toList (i - last)) (h : s.data.toList[i - t]? ≠ rs.data.toList[last - t]?) : NoOcc s.data.toList rs.data.toList (i + 1 - last) := by
  have := hno.succ (missOcc hn hl ht h)
  rwa [show i - last + 1 = i + 1 - last by omega] at this
theorem goneNo {s rs : ByteArray} {i last : Nat} (hn : rs.size = last + 1) (hl : last ≤ i) (hi : ¬ i < s.size) (hno : NoOcc s.data.toList rs.data.toList (i - last)) : Lib.index s.data.toList rs.data.toList = -1 := by
  refine index_past (fun e => ?_) hno ?_
  · have := congrArg List.length e
    rw [← Lib.size_eq, hn] at this
    cases this
  · rw [← Lib.size_eq, ← Lib.size_eq]; omega
theorem foundAt {s rs : ByteArray} {i last : Nat} (hn : rs.size = last + 1) (hl : last ≤ i) (hi : i < s.size) (hno : NoOcc s.data.toList rs.data.toList (i - last)) (h : ∀ t, t ≤ last → s.data.toList[i - t]? = rs.data.toList[last - t]?) : Lib.index s.data.toList rs.data.toList = ((i - last : Nat) : Int) :=
  index_hit hno (by rw [← Lib.size_eq]; omega) (fullOcc hn hl hi h)
theorem getAt (s : ByteArray) (k : Nat) (h : k < s.size) : s.data.toList[k]? = some s[k] := by
  rw [List.getElem?_eq_getElem (by rw [← Lib.size_eq]; exact h)]
  rfl
def DrewOf (w W : World) : Prop := ∃ n, W = w.drewN n
theorem DrewOf.refl (w : World) : DrewOf w w := ⟨0, rfl⟩
theorem DrewOf.drewN {w W : World} (h : DrewOf w W) (n : Nat) : DrewOf w (W.drewN n) := by obtain ⟨k, rfl⟩ := h; exact ⟨k + n, World.drewN_drewN _ _ _⟩
/-- the frame where the run jumps -/
def irFrame (s rs : ByteArray) (r : Int) (last i f : Nat) (u : Nat → Value) : Act := { tmps := #[Value.string s, Value.int IntKind.i32 r, undef, undef, u 4, undef, undef, Value.string rs, Value.int IntKind.i64 (last : Int), .int .i64 (i : Int), .int .i64 (f : Int), u 11, u 12, undef, undef, undef, undef, Value.int IntKind.i32 r, Value.string rs, Value.string rs, Value.int IntKind.i64 ((last : Int) + 1), Value.int IntKind.i64 (last : Int), Value.int IntKind.i64 (last : Int), u 23, u 24, u 25, u 26, u 27, u 28, u 29, u 30, u 31, u 32, u 33, u 34, u 35, u 36, u 37, u 38, u 39, u 40, u 41, u 42, u 43, u 44, u 45, u 46, u 47, u 48, u 49, u 50, u 51, u 52, u 53, u 54, u 55, u 56, u 57, u 58, u 59, u 60, u 61, u 62, u 63, u 64, u 65, u 66, u 67, u 68, u 69, u 70, u 71, u 72, u 73, u 74, u 75, u 76, u 77, u 78, u 79, u 80, u 81, u 82, u 83, u 84, u 85, u 86, u 87, u 88, u 89, u 90, u 91, u 92, u 93, u 94, u 95, u 96, u 97, u 98, undef, undef, undef, undef, undef, undef, undef, undef, undef, undef, undef, undef, undef, undef, undef, undef, undef, undef, undef, undef, undef, undef, undef, undef, undef, undef, undef, undef, undef, undef, undef, undef, undef, undef, undef, undef, undef, undef, undef, undef, undef, undef, undef, undef, undef, undef, undef, undef, undef, undef, undef, undef, undef, undef, undef, undef, undef, undef, undef, undef, undef, Value.bool false, Value.int IntKind.i32 r, Value.bool true, Value.bool true, Value.int IntKind.i32 r, Value.bool false, Value.bool false, undef, undef, undef, undef, Value.bool false, Value.int IntKind.i32 r, Value.bool false, undef, undef, undef, undef, undef, undef, undef, undef, undef, Value.bool false, Value.int IntKind.i32 r, Value.bool true, Value.bool false], defers := [] }
theorem irFrame_of {s rs : ByteArray} {r : Int} {last i f : Nat} {a : Act} (h : a = irFrame s rs r last i f (fun k => a.tmps.getD k undef)) : ∃ u, a = irFrame s rs r last i f u := ⟨_, h⟩
def IrJ (w : World) (s rs : ByteArray) (r : Int) (last i0 : Nat) (a : Act) (w' : World) : Prop := ∃ i f : Nat, i0 ≤ i ∧ last ≤ i ∧ f ≤ i ∧ i < s.size ∧ NoOcc s.data.toList rs.data.toList (i + 1 - last) ∧ DrewOf w w' ∧ ∃ u, a = irFrame s rs r last i f u
def IrJ1 (w : World) (s rs : ByteArray) (r : Int) (last : Nat) (a : Act) (w' : World) : Prop := ∃ i f : Nat, last ≤ i ∧ i ≤ s.size ∧ NoOcc s.data.toList rs.data.toList (i - last) ∧ DrewOf w w' ∧ ∃ u, a = irFrame s rs r last i f u
def IrRel (w : World) (s rs : ByteArray) (last : Nat) (v9 v10 : Value) (wr : World) : Prop := ∃ i f : Nat, v9 = .int .i64 (i : Int) ∧ v10 = .int .i64 (f : Int) ∧ last ≤ i ∧ f ≤ i ∧ i ≤ s.size + last ∧ NoOcc s.data.toList rs.data.toList (i - last) ∧ DrewOf w wr
def IrIn (w : World) (s rs : ByteArray) (last i lo : Nat) (v12 : Value) (wr : World) : Prop := ∃ j : Nat, v12 = .int .i64 (j : Int) ∧ lo ≤ j ∧ j ≤ last + 1 ∧ (∀ t, t < j → s.data.toList[i - t]? = rs.data.toList[last - t]?) ∧ DrewOf w wr
def IrFb (w : World) (s rs : ByteArray) (last : Nat) (v9 : Value) (wr : World) : Prop := ∃ i : Nat, v9 = .int .i64 (i : Int) ∧ last ≤ i ∧ i ≤ s.size ∧ NoOcc s.data.toList rs.data.toList (i - last) ∧ DrewOf w wr
set_option maxHeartbeats 4000000 in
set_option maxRecDepth 1000000 in
theorem indexRune_core (s rs : ByteArray) (r : Int) (last : Nat) (w : World) (hs : s.size < 4294967281) (h1 : 128 ≤ r) (h2 : r ≠ 65533) (hv : Lib.validRune r = true) (hn : rs.size = last + 1) (hl1 : 1 ≤ last) (hl3 : last ≤ 3)
    (hconv : ∀ w, (convert 21 9 (.int .i32 r)).run Tryd.prog w = .ok (.string rs) w) :
    Calls Tryd.prog 75 #[.string s, .int .i32 r] w fun e w' => e = .returned (.int .i64 (Lib.index s.data.toList rs.data.toList)) ∧ ∃ n, w' = w.drewN n := by
  have hL : (rs.size : Int) = (last : Int) + 1 := by omega
  have hr1 : ¬ (r < 128) := by omega
  have hr2 : (r == 65533) = false := beq_eq_false_iff_ne.2 h2
  have hr3 : (0 : Int) ≤ r := by omega
  go_enter Tryd.func75, Tryd.ntmps75
  go_wp2_with (go_at_call 113; refine (Tryd.utf8_ValidRune r _).mono ?_; rintro e w' ⟨rfl, rfl⟩; rw [hv])
  obtain ⟨w, rfl⟩ : ∃ w1, w1 = w' := ⟨_, rfl⟩
  refine wp_scope_fwd 1 (IrJ1 w s rs r last) rfl ?first ?pass
  case pass =>
    rintro a wj ⟨i, f, hli, his, hno, D, u, rfl⟩
    have HNO := Lib.hid hno
    clear hno
    simp only [irFrame]
    have HR := Lib.hid (getAt rs last (by omega))
    have HR1 := Lib.hid (getAt rs (last - 1) (by omega))
    have c1 : (last : Int) - 1 = ((last - 1 : Nat) : Int) := by omega
    have c2 : (last : Int) < (rs.size : Int) := by omega
    have c3 : ((last - 1 : Nat) : Int) < (rs.size : Int) := by omega
    have c4 : (0 : Int) ≤ ((last - 1 : Nat) : Int) := by omega
    have c5 : (0 : Int) ≤ (last : Int) := by omega
    obtain ⟨y, hy⟩ : ∃ y, rs[last]'(by omega) = y := ⟨_, rfl⟩
    obtain ⟨y1, hy1⟩ : ∃ y, rs[last - 1]'(by omega) = y := ⟨_, rfl⟩
    rw [hy] at HR
    rw [hy1] at HR1
    go_wp2_with fail
    go_step3
    go_wp2_with fail
    go_step3
    go_wp2_with fail
    go_loopw [9] (IrFb w s rs last) (fun v _ => s.size + 1 - (RowKit.intOf v).toNat)
    case atStart => exact ⟨i, rfl, hli, his, HNO.out, D⟩
    case round =>
      obtain ⟨i, rfl, hli, his, hno, D⟩ := hrel
      have HNO := Lib.hid hno
      clear hno
      by_cases hlt : i < s.size
      · have e1 : (i : Int) < (s.size : Int) := by omega
        have e3 : (0 : Int) ≤ (i : Int) := by omega
        have e4 : (i : Int) - 1 = ((i - 1 : Nat) : Int) := by omega
        have e6 : ((i - 1 : Nat) : Int) < (s.size : Int) := by omega
        have e7 : (0 : Int) ≤ ((i - 1 : Nat) : Int) := by omega
        have HS := Lib.hid (getAt s i hlt)
        have HS1 := Lib.hid (getAt s (i - 1) (by omega))
        obtain ⟨x, hx⟩ : ∃ x, s[i] = x := ⟨_, rfl⟩
        obtain ⟨x1, hx1⟩ : ∃ x, s[i - 1]'(by omega) = x := ⟨_, rfl⟩
        rw [hx] at HS
        rw [hx1] at HS1
        by_cases hxy : x = y
        · have e5 : ((x.toNat : Int) == (y.toNat : Int)) = true := by rw [hxy]; exact beq_self_eq_true _
          by_cases hxy1 : x1 = y1
          · have e8 : ((x1.toNat : Int) == (y1.toNat : Int)) = true := by rw [hxy1]; exact beq_self_eq_true _
            have HEQ : Hid (∀ t, t < 2 → s.data.toList[i - t]? = rs.data.toList[last - t]?) := Lib.hid (fun t ht => by
              rcases (by omega : t = 0 ∨ t = 1) with rfl | rfl
              · rw [Nat.sub_zero, Nat.sub_zero, HS.out, HR.out, hxy]
              · rw [HS1.out, HR1.out, hxy1])
            clear hxy hxy1
            go_wp2_with fail
            go_loopw [16] (IrIn w s rs last i 2) (fun v _ => last + 1 - (RowKit.intOf v).toNat)
            case atStart => exact ⟨2, rfl, Nat.le_refl _, by omega, HEQ.out, D⟩
            case round =>
              obtain ⟨j, rfl, hj1, hj2, hall, D3⟩ := hrel
              have HALL := Lib.hid hall
              clear hall
              by_cases hjl : j ≤ last
              · have g1 : (j : Int) < (last : Int) + 1 := by omega
                have g2 : IntKind.i64.wrap ((i : Int) - (j : Int)) = ((i - j : Nat) : Int) := by rw [IntKind.wrap_i64]; omega
                have g3 : IntKind.i64.wrap ((last : Int) - (j : Int)) = ((last - j : Nat) : Int) := by rw [IntKind.wrap_i64]; omega
                have g4 : ((i - j : Nat) : Int) < (s.size : Int) := by omega
                have g5 : ((last - j : Nat) : Int) < (rs.size : Int) := by omega
                have g6 : (0 : Int) ≤ ((i - j : Nat) : Int) := by omega
                have g7 : (0 : Int) ≤ ((last - j : Nat) : Int) := by omega
                have HS2 := Lib.hid (getAt s (i - j) (by omega))
                have HR2 := Lib.hid (getAt rs (last - j) (by omega))
                obtain ⟨x2, hx2⟩ : ∃ x, s[i - j]'(by omega) = x := ⟨_, rfl⟩
                obtain ⟨y2, hy2⟩ : ∃ y, rs[last - j]'(by omega) = y := ⟨_, rfl⟩
                rw [hx2] at HS2
                rw [hy2] at HR2
                by_cases hxy2 : x2 = y2
                · have g8 : ((x2.toNat : Int) == (y2.toNat : Int)) = true := by rw [hxy2]; exact beq_self_eq_true _
                  have HN := Lib.hid (show s.data.toList[i - j]? = rs.data.toList[last - j]? by rw [HS2.out, HR2.out, hxy2])
                  clear hxy2
                  go_wp2_with fail
                  go_quiet (fail)
                  go_wp2_with fail
                  go_roundw
                  case rel => exact ⟨j + 1, by go_num, by omega, by omega, fun t ht => by
                    by_cases e : t = j
                    · subst e; exact HN.out
                    · exact HALL.out t (by omega), D3.drewN _⟩
                  case measure => simp [RowKit.intOf]; omega
                · have g8 : ((x2.toNat : Int) == (y2.toNat : Int)) = false := beq_eq_false_iff_ne.2 (fun e => hxy2 (UInt8.toNat_inj.1 (by omega)))
                  have HN := Lib.hid (show s.data.toList[i - j]? ≠ rs.data.toList[last - j]? by rw [HS2.out, HR2.out]; exact fun e => hxy2 (Option.some.inj e))
                  clear hxy2
                  go_wp2_with fail
                  go_quiet (fail)
                  go_wp2_with fail
                  go_roundw
                  case rel => exact ⟨i + 1, by go_num, by omega, by omega, nextNo hn hli hjl HNO.out HN.out, D3.drewN _⟩
                  case measure => simp [RowKit.intOf]; omega
              · obtain rfl : j = last + 1 := by omega
                have g1 : ¬ (((last + 1 : Nat) : Int) < (last : Int) + 1) := by omega
                have HF := Lib.hid (foundAt (s := s) (rs := rs) (i := i) hn hli hlt HNO.out (fun t ht => HALL.out t (by omega)))
                have g2 : (i : Int) - (last : Int) = ((i - last : Nat) : Int) := by omega
                clear hjl
                go_wp2_with fail
                simp +zetaDelta only [fwd_ret, Exit.inBlock, Exit.then, Exit.noGoto]
                go_ret
                exact ⟨by rw [HF.out]; first | rfl | (refine congrArg Ending.returned (congrArg (Value.int IntKind.i64) ?_); omega), D3⟩
          · have e8 : ((x1.toNat : Int) == (y1.toNat : Int)) = false := beq_eq_false_iff_ne.2 (fun e => hxy1 (UInt8.toNat_inj.1 (by omega)))
            have HN := Lib.hid (nextNo (t := 1) hn hli hl1 HNO.out (by rw [HS1.out, HR1.out]; exact fun e => hxy1 (Option.some.inj e)))
            clear hxy hxy1
            go_wp2_with fail
            go_roundw
            case rel => exact ⟨i + 1, by go_num, by omega, by omega, HN.out, D⟩
            case measure => simp [RowKit.intOf]; omega
        · have e5 : ((x.toNat : Int) == (y.toNat : Int)) = false := beq_eq_false_iff_ne.2 (fun e => hxy (UInt8.toNat_inj.1 (by omega)))
          have HN := Lib.hid (nextNo (t := 0) hn hli (Nat.zero_le _) HNO.out (by rw [Nat.sub_zero, Nat.sub_zero, HS.out, HR.out]; exact fun e => hxy (Option.some.inj e)))
          clear hxy
          go_wp2_with fail
          go_roundw
          case rel => exact ⟨i + 1, by go_num, by omega, by omega, HN.out, D⟩
          case measure => simp [RowKit.intOf]; omega
      · have e1 : ¬ ((i : Int) < (s.size : Int)) := by omega
        have HG := Lib.hid (goneNo hn hli hlt HNO.out)
        clear hlt
        go_wp2_with fail
        simp +zetaDelta only [fwd_ret, Exit.inBlock, Exit.then, Exit.noGoto]
        go_ret
        exact ⟨by rw [HG.out]; rfl, D⟩

  go_wp2_with fail
  go_loopw [9, 10] (IrRel w s rs last) (fun i _ _ => s.size + last + 1 - (RowKit.intOf i).toNat)
  case atStart => exact ⟨last, 0, rfl, rfl, Nat.le_refl _, Nat.zero_le _, by omega, by rw [Nat.sub_self]; exact NoOcc.zero _ _, DrewOf.refl _⟩
  case round =>
    obtain ⟨i, f, rfl, rfl, hli, hfi, his, hno, D⟩ := hrel
    have HNO := Lib.hid hno
    clear hno
    by_cases hlt : i < s.size
    · have e1 : (i : Int) < (s.size : Int) := by omega
      have e2 : (last : Int) < (rs.size : Int) := by omega
      have e3 : (0 : Int) ≤ (i : Int) := by omega
      have e4 : (0 : Int) ≤ (last : Int) := by omega
      have e9 : (last : Int) < (last : Int) + 1 := by omega
      have HS := Lib.hid (getAt s i hlt)
      have HR := Lib.hid (getAt rs last (by omega))
      obtain ⟨x, hx⟩ : ∃ x, s[i] = x := ⟨_, rfl⟩
      obtain ⟨y, hy⟩ : ∃ y, rs[last]'(by omega) = y := ⟨_, rfl⟩
      rw [hx] at HS
      rw [hy] at HR
      go_wp2_with fail
      refine wp_scope_fwd 0 (IrJ w s rs r last i) rfl ?first2 ?pass2
      case pass2 =>
        rintro a wj ⟨k, g, hi0, hlk, hgk, hks, hno, D2, u, rfl⟩
        have HNO2 := Lib.hid hno
        clear hno HNO HS HR
        clear hx hy e1 e3 hlt
        simp only [irFrame]
        go_wp2_with fail
        all_goals first
          | (go_step3
             refine fwd_out (by decide) rfl ?_
             simp +zetaDelta only [Exit.then, Exit.inBlock]
             refine fwd_to ⟨k + 1, g + 1, by omega, by omega, HNO2.out, D2, irFrame_of ?_⟩
             rfl)
          | skip
        all_goals (
          simp +zetaDelta only [fwd_normal, Exit.then, Exit.inBlock]
          refine ⟨?_, ?_⟩
          · repeat apply Exists.intro
            refine ⟨⟨k + 1, g + 1, by go_num, by go_num, by omega, by omega, by omega, HNO2.out, D2⟩, rfl⟩
          · simp [RowKit.intOf]; omega)
      by_cases hxy : x = y
      · have e5 : ((x.toNat : Int) == (y.toNat : Int)) = true := by rw [hxy]; exact beq_self_eq_true _
        have HEQ : Hid (∀ t, t < 1 → s.data.toList[i - t]? = rs.data.toList[last - t]?) := Lib.hid (fun t ht => by
          obtain rfl : t = 0 := by omega
          rw [Nat.sub_zero, Nat.sub_zero, HS.out, HR.out, hxy])
        clear hxy
        go_wp2_with fail
        go_quiet (fail)
        go_wp2_with fail
        go_loopw [12] (IrIn w s rs last i 1) (fun v _ => last + 1 - (RowKit.intOf v).toNat)
        case atStart => exact ⟨1, rfl, Nat.le_refl _, by omega, HEQ.out, D.drewN _⟩
        case round =>
          obtain ⟨j, rfl, hj1, hj2, hall, D3⟩ := hrel
          have HALL := Lib.hid hall
          clear hall
          by_cases hjl : j ≤ last
          · have g1 : (j : Int) < (last : Int) + 1 := by omega
            have g2 : IntKind.i64.wrap ((i : Int) - (j : Int)) = ((i - j : Nat) : Int) := by rw [IntKind.wrap_i64]; omega
            have g3 : IntKind.i64.wrap ((last : Int) - (j : Int)) = ((last - j : Nat) : Int) := by rw [IntKind.wrap_i64]; omega
            have g4 : ((i - j : Nat) : Int) < (s.size : Int) := by omega
            have g5 : ((last - j : Nat) : Int) < (rs.size : Int) := by omega
            have g6 : (0 : Int) ≤ ((i - j : Nat) : Int) := by omega
            have g7 : (0 : Int) ≤ ((last - j : Nat) : Int) := by omega
            have HS2 := Lib.hid (getAt s (i - j) (by omega))
            have HR2 := Lib.hid (getAt rs (last - j) (by omega))
            obtain ⟨x2, hx2⟩ : ∃ x, s[i - j]'(by omega) = x := ⟨_, rfl⟩
            obtain ⟨y2, hy2⟩ : ∃ y, rs[last - j]'(by omega) = y := ⟨_, rfl⟩
            rw [hx2] at HS2
            rw [hy2] at HR2
            by_cases hxy2 : x2 = y2
            · have g8 : ((x2.toNat : Int) == (y2.toNat : Int)) = true := by rw [hxy2]; exact beq_self_eq_true _
              have HN := Lib.hid (show s.data.toList[i - j]? = rs.data.toList[last - j]? by rw [HS2.out, HR2.out, hxy2])
              clear hxy2
              go_wp2_with fail
              go_quiet (fail)
              go_wp2_with fail
              go_roundw
              case rel => exact ⟨j + 1, by go_num, by omega, by omega, fun t ht => by
                by_cases e : t = j
                · subst e; exact HN.out
                · exact HALL.out t (by omega), D3.drewN _⟩
              case measure => simp [RowKit.intOf]; omega
            · have g8 : ((x2.toNat : Int) == (y2.toNat : Int)) = false := beq_eq_false_iff_ne.2 (fun e => hxy2 (UInt8.toNat_inj.1 (by omega)))
              have HN := Lib.hid (show s.data.toList[i - j]? ≠ rs.data.toList[last - j]? by rw [HS2.out, HR2.out]; exact fun e => hxy2 (Option.some.inj e))
              clear hxy2
              go_wp2_with fail
              go_quiet (fail)
              go_wp2_with fail
              go_step3
              refine fwd_to ⟨i, f, by omega, hli, by omega, hlt, nextNo hn hli hjl HNO.out HN.out, D3.drewN _, irFrame_of ?_⟩
              rfl
          · obtain rfl : j = last + 1 := by omega
            have g1 : ¬ (((last + 1 : Nat) : Int) < (last : Int) + 1) := by omega
            have HF := Lib.hid (foundAt (s := s) (rs := rs) (i := i) hn hli hlt HNO.out (fun t ht => HALL.out t (by omega)))
            have g2 : (i : Int) - (last : Int) = ((i - last : Nat) : Int) := by omega
            clear hjl
            go_wp2_with fail
            simp +zetaDelta only [fwd_ret, Exit.inBlock, Exit.then, Exit.noGoto]
            go_ret
            exact ⟨by rw [HF.out]; first | rfl | (refine congrArg Ending.returned (congrArg (Value.int IntKind.i64) ?_); omega), D3⟩
      · have e5 : ((x.toNat : Int) == (y.toNat : Int)) = false := beq_eq_false_iff_ne.2 (fun e => hxy (UInt8.toNat_inj.1 (by omega)))
        have e6 : (0 : Int) ≤ (i : Int) + 1 := by omega
        have e7 : (i : Int) + 1 ≤ (s.size : Int) := by omega
        have e8 : IntKind.i64.wrap ((i : Int) + 1) = (i : Int) + 1 := by rw [IntKind.wrap_i64]; omega
        have HNE : Hid (s.data.toList[i]? ≠ rs.data.toList[last]?) := Lib.hid (by rw [HS.out, HR.out]; exact fun e => hxy (Option.some.inj e))
        have hex : (s.extract (i + 1) s.size).data.toList = s.data.toList.drop (i + 1) := Lib.extract_to_end _ _
        have HB : Hid (∀ W, Calls Tryd.prog 112 #[.string (s.extract (i + 1) s.size), .int .u8 (y.toNat : Int)] W fun e w' => e = .returned (.int .i64 (Lib.indexByte (s.data.toList.drop (i + 1)) y)) ∧ w' = W) := Lib.hid (fun W => by
          rw [← hex]
          exact strIndexByte _ y (by rw [ByteArray.size_extract]; omega) W)
        have hge := Lib.indexByte_ge (s.data.toList.drop (i + 1)) y
        clear hxy hex
        by_cases h0 : Lib.indexByte (s.data.toList.drop (i + 1)) y < 0
        · have hV : Lib.indexByte (s.data.toList.drop (i + 1)) y = -1 := by omega
          have HN : Hid (Lib.index s.data.toList rs.data.toList = -1) := Lib.hid (noneAfter hn hli HNO.out (fun k hk => by
            by_cases e : k = i
            · subst e; exact HNE.out
            · have := Lib.indexByte_none hV (k - (i + 1))
              rw [List.getElem?_drop, show i + 1 + (k - (i + 1)) = k by omega] at this
              rw [HR.out]
              exact this))
          rw [hV] at HB
          clear h0 hge hV
          go_wp2_with fail
          go_quiet (fail)
          have D2 := D.drewN nq
          generalize wr.drewN nq = wq at D2 ⊢
          go_wp2_with fail
          go_quiet ((go_at_call 112; exact Calls.quiet_of_same (HB.out _)))
          go_wp2_with fail
          simp +zetaDelta only [fwd_ret, Exit.inBlock, Exit.then, Exit.noGoto]
          go_ret
          exact ⟨by rw [HN.out]; rfl, D2.drewN _⟩
        · obtain ⟨o, hV⟩ : ∃ o : Nat, Lib.indexByte (s.data.toList.drop (i + 1)) y = (o : Int) := ⟨(Lib.indexByte (s.data.toList.drop (i + 1)) y).toNat, by omega⟩
          obtain ⟨hy1, hy2⟩ := Lib.indexByte_some hV
          rw [List.getElem?_drop] at hy1
          have hol : i + 1 + o < s.size := by
            have := (List.getElem?_eq_some_iff.1 hy1).1
            rw [← Lib.size_eq] at this
            exact this
          obtain ⟨I, hI⟩ : ∃ I, I = i + (o + 1) := ⟨_, rfl⟩
          have HNS := Lib.hid (skipTo (o := o) hn hli HNO.out (fun k hk1 hk2 => by
            by_cases e : k = i
            · subst e; exact HNE.out
            · have := hy2 (k - (i + 1)) (by omega)
              rw [List.getElem?_drop, show i + 1 + (k - (i + 1)) = k by omega] at this
              rw [HR.out]
              exact this))
          have HEQ : Hid (∀ t, t < 1 → s.data.toList[I - t]? = rs.data.toList[last - t]?) := Lib.hid (fun t ht => by
            obtain rfl : t = 0 := by omega
            rw [Nat.sub_zero, Nat.sub_zero, hI, show i + (o + 1) = i + 1 + o by omega, hy1, HR.out])
          rw [← hI] at HNS
          have hIc : (i : Int) + ((o : Int) + 1) = (I : Int) := by omega
          have hiI : i ≤ I := by omega
          have hli2 : last ≤ I := by omega
          have hlt2 : I < s.size := by omega
          rw [hV] at HB
          clear h0 hge hV hy1 hy2 hI
          go_wp2_with fail
          go_quiet (fail)
          have D2 := D.drewN nq
          generalize wr.drewN nq = wq at D2 ⊢
          go_wp2_with fail
          go_quiet ((go_at_call 112; exact Calls.quiet_of_same (HB.out _)))
          go_wp2_with fail
          go_loopw [12] (IrIn w s rs last I 1) (fun v _ => last + 1 - (RowKit.intOf v).toNat)
          case atStart => exact ⟨1, rfl, Nat.le_refl _, by omega, HEQ.out, D2.drewN _⟩
          case round =>
            obtain ⟨j, rfl, hj1, hj2, hall, D3⟩ := hrel
            have HALL := Lib.hid hall
            clear hall
            by_cases hjl : j ≤ last
            · have g1 : (j : Int) < (last : Int) + 1 := by omega
              have g2 : IntKind.i64.wrap ((I : Int) - (j : Int)) = ((I - j : Nat) : Int) := by rw [IntKind.wrap_i64]; omega
              have g3 : IntKind.i64.wrap ((last : Int) - (j : Int)) = ((last - j : Nat) : Int) := by rw [IntKind.wrap_i64]; omega
              have g4 : ((I - j : Nat) : Int) < (s.size : Int) := by omega
              have g5 : ((last - j : Nat) : Int) < (rs.size : Int) := by omega
              have g6 : (0 : Int) ≤ ((I - j : Nat) : Int) := by omega
              have g7 : (0 : Int) ≤ ((last - j : Nat) : Int) := by omega
              have HS2 := Lib.hid (getAt s (I - j) (by omega))
              have HR2 := Lib.hid (getAt rs (last - j) (by omega))
              obtain ⟨x2, hx2⟩ : ∃ x, s[I - j]'(by omega) = x := ⟨_, rfl⟩
              obtain ⟨y2, hy2⟩ : ∃ y, rs[last - j]'(by omega) = y := ⟨_, rfl⟩
              rw [hx2] at HS2
              rw [hy2] at HR2
              by_cases hxy2 : x2 = y2
              · have g8 : ((x2.toNat : Int) == (y2.toNat : Int)) = true := by rw [hxy2]; exact beq_self_eq_true _
                have HN := Lib.hid (show s.data.toList[I - j]? = rs.data.toList[last - j]? by rw [HS2.out, HR2.out, hxy2])
                clear hxy2
                go_wp2_with fail
                go_quiet (fail)
                go_wp2_with fail
                go_roundw
                case rel => exact ⟨j + 1, by go_num, by omega, by omega, fun t ht => by
                  by_cases e : t = j
                  · subst e; exact HN.out
                  · exact HALL.out t (by omega), D3.drewN _⟩
                case measure => simp [RowKit.intOf]; omega
              · have g8 : ((x2.toNat : Int) == (y2.toNat : Int)) = false := beq_eq_false_iff_ne.2 (fun e => hxy2 (UInt8.toNat_inj.1 (by omega)))
                have HN := Lib.hid (show s.data.toList[I - j]? ≠ rs.data.toList[last - j]? by rw [HS2.out, HR2.out]; exact fun e => hxy2 (Option.some.inj e))
                clear hxy2
                go_wp2_with fail
                go_quiet (fail)
                go_wp2_with fail
                go_step3
                refine fwd_to ⟨I, f, by omega, hli2, by omega, hlt2, nextNo hn hli2 hjl HNS.out HN.out, D3.drewN _, irFrame_of ?_⟩
                rfl
            · obtain rfl : j = last + 1 := by omega
              have g1 : ¬ (((last + 1 : Nat) : Int) < (last : Int) + 1) := by omega
              have HF := Lib.hid (foundAt (s := s) (rs := rs) (i := I) hn hli2 hlt2 HNS.out (fun t ht => HALL.out t (by omega)))
              have g2 : (I : Int) - (last : Int) = ((I - last : Nat) : Int) := by omega
              clear hjl
              go_wp2_with fail
              simp +zetaDelta only [fwd_ret, Exit.inBlock, Exit.then, Exit.noGoto]
              go_ret
              exact ⟨by rw [HF.out]; first | rfl | (refine congrArg Ending.returned (congrArg (Value.int IntKind.i64) ?_); omega), D3⟩
    · have e1 : ¬ ((i : Int) < (s.size : Int)) := by omega
      have HG := Lib.hid (goneNo hn hli hlt HNO.out)
      clear hlt
      go_wp2_with fail
      simp +zetaDelta only [fwd_ret, Exit.inBlock, Exit.then, Exit.noGoto]
      go_ret
      exact ⟨by rw [HG.out]; rfl, D⟩
end Go.Proofs.YthnbifkcbeldmaaDoor
