/- strings.Count: how often a text stands in another one without overlaps; of the empty one, one more than there are code points. -/
import Derived.Test.YthnbifkcbeldmaaDoorIndex
import Derived.Test.YthnbifkcbeldmaaDoorBrk
import Derived.Lib.SplitLaws
import Derived.Lib.RuneCount
import Derived.Laws.RangeString
import Derived.Laws.RangeAny
import Derived.LoopTactic
import Derived.Below
import Derived.WalkSmall
namespace Go.Proofs.YthnbifkcbeldmaaDoor
open Go.Shelf Go.RowKit Go.Lib
set_option linter.unusedVariables false

theorem iter_below (w : World) (s : ByteArray) (pos : Nat) : Below w.heap.size w (w.iter s pos) := (Below.refl _ _).alloc (Nat.le_refl _) _

set_option maxHeartbeats 4000000 in
set_option maxRecDepth 1000000 in
theorem runeCountStr (s : ByteArray) (w : World) (hs : s.size < 9223372036854775807) :
    Calls Tryd.prog 116 #[.string s] w fun e w' => e = .returned (.int .i64 (Lib.runeCount s)) ∧ Below w.heap.size w w' := by
  go_enter Tryd.func116, Tryd.ntmps116
  go_wp2
  go_loopw [2] (fun n w' => ∃ (pos b acc : Nat), w' = w.iter s pos ∧ n = .int .i64 acc ∧ acc + Lib.runeCountFrom s b pos = Lib.runeCount s ∧ s.size ≤ pos + b ∧ acc ≤ pos) (fun _ w' => s.size - w'.iterPos w.heap.size)
  case atStart => exact ⟨0, s.size, 0, rfl, rfl, by simp [Lib.runeCount], by omega, Nat.le_refl _⟩
  case round =>
    obtain ⟨pos, b, acc, rfl, rfl, hc, hb, ha⟩ := hrel
    by_cases hp : pos < s.size
    · have hnx : ∀ ty, (Instr.next (.pointer (some ⟨w.heap.size, 0, none⟩)) true ty).run Tryd.prog (w.iter s pos) = _ := fun ty => run_next_any w s pos ty hp
      have hwd := Lib.decode_width_pos s pos hp
      go_wp2
      go_roundw
      case rel =>
        cases b with
        | zero => omega
        | succ b =>
          refine ⟨pos + (Utf8.decode s pos).2, b, acc + 1, rfl, by go_num, ?_, by omega, by omega⟩
          rw [← hc]
          simp [Lib.runeCountFrom, hp]
          omega
      case measure =>
        simp
        omega
    · have hnx : ∀ ty, (Instr.next (.pointer (some ⟨w.heap.size, 0, none⟩)) true ty).run Tryd.prog (w.iter s pos) = _ := fun ty => run_next_end w s pos ty hp
      go_wp2
      go_ret
      rw [Lib.runeCountFrom_end s b pos hp, Nat.add_zero] at hc
      subst hc
      exact ⟨rfl, iter_below _ _ _⟩

/-- how often a byte stands in the first k bytes -/
def cntTo (s : ByteArray) (c : Int) (k : Nat) : Nat := (s.data.toList.take k).count c.toNat.toUInt8
theorem cntTo_zero (s : ByteArray) (c : Int) : cntTo s c 0 = 0 := by simp [cntTo]
theorem cntTo_all (s : ByteArray) (c : Int) (k : Nat) (h : s.size ≤ k) : cntTo s c k = cntTo s c s.size := by
  unfold cntTo
  rw [List.take_of_length_le (by simpa using h), List.take_of_length_le (by simp)]
theorem count_snoc (s : ByteArray) (c : Int) (k : Nat) (hk : k < s.size) (h0 : 0 ≤ c) (h1 : c ≤ 255) (x : Bool) (hx : ((s[k].toNat : Int) == c) = x) :
    cntTo s c (k + 1) = cntTo s c k + if x then 1 else 0 := by
  unfold cntTo
  have hl : k < s.data.toList.length := by simpa using hk
  rw [List.take_succ_eq_append_getElem hl, List.count_append]
  have e : s.data.toList[k] = s[k] := rfl
  rw [e, List.count_singleton]
  subst hx
  have e2 : ((c.toNat.toUInt8).toNat : Int) = c := by simp; omega
  congr 1
  by_cases h : s[k] = c.toNat.toUInt8
  · have : ((s[k].toNat : Int) == c) = true := by rw [beq_iff_eq, h]; exact e2
    rw [this, h]; simp
  · have : ((s[k].toNat : Int) == c) = false := by
      rw [beq_eq_false_iff_ne]; intro h'; apply h; exact UInt8.toNat_inj.1 (by omega)
    rw [this]; simp [h]

set_option maxHeartbeats 800000 in
theorem countStr (s : ByteArray) (c : Int) (hs : s.size < 4611686018427387904) (h0 : 0 ≤ c) (h1 : c ≤ 255) (w : World) :
    Calls Tryd.prog 117 #[.string s, .int .u8 c] w fun e w' => e = .returned (.int .i64 (cntTo s c s.size)) ∧ w = w' := by
  go_enter Tryd.func117, Tryd.ntmps117
  go_wp2
  go_loop [5, 6] (fun n i => ∃ k m : Nat, k ≤ s.size ∧ i = .int .i64 k ∧ n = .int .i64 m ∧ m = cntTo s c k ∧ m ≤ k) (fun _ i => s.size - (RowKit.intOf i).toNat)
  case atStart => exact ⟨0, 0, Nat.zero_le _, rfl, rfl, (cntTo_zero s c).symm, Nat.le_refl _⟩
  case round =>
    obtain ⟨k, m, hk, rfl, rfl, hm, hmk⟩ := hrel
    have HM := Lib.hid hm
    clear hm
    by_cases hlt : k < s.size
    · have hI : (k : Int) < s.size := by omega
      cases hx : ((s[k].toNat : Int) == c)
      all_goals
        have HS := Lib.hid (count_snoc s c k hlt h0 h1 _ hx)
        go_wp2
        go_round
        case rel => first | exact ⟨k + 1, m, by omega, by go_num, rfl, by rw [HS.out, HM.out]; rfl, by omega⟩ | exact ⟨k + 1, m + 1, by omega, by go_num, by go_num, by rw [HS.out, HM.out]; rfl, by omega⟩
        case measure => simp [RowKit.intOf]; omega
    · have hI : ¬ (k : Int) < s.size := by omega
      rw [cntTo_all s c k (by omega)] at HM
      go_wp2
      go_ret
      rw [← HM.out]
      exact ⟨rfl, rfl⟩

/-- what strings.Count says -/
def cntB (s sub : ByteArray) : Nat := if sub.size = 0 then runeCount s + 1 else countB s sub
theorem cntB_empty (s sub : ByteArray) (h : sub.size = 0) : cntB s sub = runeCount s + 1 := by unfold cntB; rw [if_pos h]
theorem cntB_one (s sub : ByteArray) (h : sub.size = 1) (i0 : 0 < sub.size) : cntB s sub = cntTo s ((sub[0]'i0).toNat : Int) s.size := by
  unfold cntTo
  rw [List.take_of_length_le (by simp)]
  unfold cntB
  rw [if_neg (by omega)]
  obtain ⟨c, rfl⟩ := one_byte sub h
  show count _ _ = _
  rw [show (⟨#[c]⟩ : ByteArray).data.toList = [c] from rfl, count_one]
  congr 1
  show c = ((c.toNat : Int)).toNat.toUInt8
  simp
theorem cntB_more (s sub : ByteArray) (h : 1 ≤ sub.size) : cntB s sub = countB s sub := by unfold cntB; rw [if_neg (by omega)]
theorem cntB_le (s sub : ByteArray) : cntB s sub ≤ s.size + 1 := by
  by_cases h : sub.size = 0
  · rw [cntB_empty s sub h]; have := runeCount_le s; omega
  · rw [cntB_more s sub (by omega)]; have := countB_le sub (by omega) _ s (Nat.le_refl _); omega

theorem gsIndex (s sep : ByteArray) (hs : s.size < 1152921504606846976) (hp : sep.size < 1152921504606846976) (w : World) :
    Calls Tryd.prog 82 #[.string s, .string sep] w fun e w' => e = .returned (.int .i64 (index s.data.toList sep.data.toList)) ∧ w = w' := by
  go_enter Tryd.func82, Tryd.ntmps82
  go_wp2_with (go_at_call 120; refine (strIndex s sep hs hp _).mono ?_; rintro e w' ⟨rfl, rfl⟩)
  go_ret
  exact ⟨rfl, rfl⟩

set_option maxHeartbeats 4000000 in
set_option maxRecDepth 100000 in
theorem gsCount_ne (s sub : ByteArray) (hs : s.size < 1152921504606846976) (hp : sub.size < 1152921504606846976) (h0 : ¬ sub.size = 0) (w : World) :
    Calls Tryd.prog 80 #[.string s, .string sub] w fun e w' => e = .returned (.int .i64 (cntB s sub)) ∧ w = w' := by
  have n0 : (((sub.size : Nat) : Int) == 0) = false := beq_eq_false_iff_ne.2 (by omega)
  by_cases h1 : sub.size = 1
  · have i0' : 0 < sub.size := by omega
    have E := Lib.hid (cntB_one s sub h1 i0')
    have n1 : (((sub.size : Nat) : Int) == 1) = true := beq_iff_eq.2 (by omega)
    have i0 : (0 : Int) < sub.size := by omega
    have hb := byte_le (sub[0]'i0')
    clear h0 h1
    go_enter Tryd.func80, Tryd.ntmps80
    go_wp2_with (go_at_call 117; refine (countStr s _ (by omega) (by omega) (by omega) _).mono ?_; rintro e w' ⟨rfl, rfl⟩)
    go_ret
    rw [E.out]
    exact ⟨by first | rfl | simp, rfl⟩
  have n1 : (((sub.size : Nat) : Int) == 1) = false := beq_eq_false_iff_ne.2 (by omega)
  have E := Lib.hid (cntB_more s sub (by omega))
  have h2 : 2 ≤ sub.size := by omega
  clear h0 h1
  go_enter Tryd.func80, Tryd.ntmps80
  go_wp2_with fail
  go_loop [0, 5] (fun sv nv => ∃ (sk : ByteArray) (k : Nat), sv = .string sk ∧ nv = .int .i64 k ∧ k + sk.size ≤ s.size ∧ k + Lib.countB sk sub = Lib.countB s sub) (fun sv _ => match sv with | .string x => x.size | _ => 0)
  case atStart => exact ⟨s, 0, rfl, rfl, by omega, by omega⟩
  case round =>
    obtain ⟨sk, k, rfl, rfl, hk, hc⟩ := hrel
    have HC := Lib.hid hc
    clear hc
    rcases Lib.indexB_cases sk sub with hix | ⟨i, hix, hroom⟩
    · have HX := Lib.hid hix
      clear hix
      go_wp2_with (go_at_call 82; refine (gsIndex _ _ (by omega) (by omega) _).mono ?_; rintro e w' ⟨rfl, rfl⟩; rw [show Lib.index sk.data.toList sub.data.toList = _ from HX.out])
      go_ret
      refine ⟨?_, rfl⟩
      have e0 := Lib.countB_miss sk sub HX.out
      have hc := HC.out
      rw [E.out, show Lib.countB s sub = k by omega]
      rfl
    · have HX := Lib.hid hix
      clear hix
      have c0 : (((i : Nat) : Int) == -1) = false := beq_eq_false_iff_ne.2 (by omega)
      have c3 : (0 : Int) ≤ ↑i + ↑sub.size := by omega
      have c4 : (↑i + ↑sub.size : Int) ≤ ↑sk.size := by omega
      go_wp2_with (go_at_call 82; refine (gsIndex _ _ (by omega) (by omega) _).mono ?_; rintro e w' ⟨rfl, rfl⟩; rw [show Lib.index sk.data.toList sub.data.toList = _ from HX.out])
      have hc := HC.out
      have e1 := Lib.countB_hit sk sub i (by omega) HX.out
      have e2 : (sk.extract (i + sub.size) sk.size).size = sk.size - (i + sub.size) := by rw [ByteArray.size_extract]; omega
      refine ⟨⟨sk.extract (i + sub.size) sk.size, k + 1, rfl, by push_cast; rfl, by omega, by omega⟩, ?_⟩
      show (sk.extract (i + sub.size) sk.size).size < sk.size
      omega
set_option maxHeartbeats 4000000 in
set_option maxRecDepth 100000 in
theorem gsCount (s sub : ByteArray) (hs : s.size < 1152921504606846976) (hp : sub.size < 1152921504606846976) (w : World) :
    Calls Tryd.prog 80 #[.string s, .string sub] w fun e w' => e = .returned (.int .i64 (cntB s sub)) ∧ Below w.heap.size w w' := by
  by_cases h0 : sub.size = 0
  · have E := Lib.hid (cntB_empty s sub h0)
    have n0 : (((sub.size : Nat) : Int) == 0) = true := beq_iff_eq.2 (by omega)
    have hrc := runeCount_le s
    clear h0
    go_enter Tryd.func80, Tryd.ntmps80
    go_wp2_with (go_at_call 116; refine (runeCountStr s _ (by omega)).mono ?_; rintro e w' ⟨rfl, hB⟩)
    go_ret
    rw [E.out]
    exact ⟨by first | rfl | (push_cast; rfl), hB⟩
  refine (gsCount_ne s sub hs hp h0 w).mono ?_
  rintro e w' ⟨rfl, rfl⟩
  exact ⟨rfl, Below.refl _ _⟩

end Go.Proofs.YthnbifkcbeldmaaDoor
