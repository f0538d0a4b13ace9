/- The law FnBytCount. -/
import Derived.Test.YthnbifkcbeldmaaCountB
import Derived.Test.YthnbifkcbeldmaaLawCount
namespace Go.Proofs.Ythnbifkcbeldmaa
open Go.RowKit Go.Lib
set_option linter.unusedVariables false

/-- the loop of Count: what is left of the row, and how often it was found -/
def CntRel (b c : Nat) (s sub : ByteArray) (w : World) (v0 v5 : Value) (wr : World) : Prop :=
  ∃ i k x : Nat, v0 = .slice (some ⟨b, x, none⟩) (s.size - i) (c - i) ∧ Row w b x (s.extract i s.size) ∧ v5 = .int .i64 (k : Int) ∧ i ≤ s.size ∧ k ≤ i ∧ k + Lib.countB (s.extract i s.size) sub = Lib.countB s sub ∧ ∃ q, wr = w.drewN q
set_option maxHeartbeats 4000000 in
set_option maxRecDepth 100000 in
theorem gbCount (b1 o1 c1 b2 o2 c2 : Nat) (s sub : ByteArray) (hs : s.size < 1152921504606846976) (hp : sub.size < 1152921504606846976) (w : World) (r1 : Row w b1 o1 s) (r2 : Row w b2 o2 sub) (hcap : s.size ≤ c1) :
    Calls Try.prog 19 #[.slice (some ⟨b1, o1, none⟩) s.size c1, .slice (some ⟨b2, o2, none⟩) sub.size c2] w fun e w' => e = .returned (.int .i64 (cntB s sub)) ∧ Below w.heap.size w w' := by
  by_cases h0 : sub.size = 0
  · have E := Lib.hid (cntB_empty s sub h0)
    have n0 : (((sub.size : Nat) : Int) == 0) = true := beq_iff_eq.2 (by omega)
    have hrc := runeCount_le s
    have H := Lib.hid (runeCountRow b1 o1 c1 s (by omega) hcap w r1)
    clear h0 r1 r2
    go_enter Try.func19, Try.ntmps19
    go_wp2_with (go_at_call 28; refine H.out.mono ?_; rintro e w' ⟨rfl, hB⟩)
    go_ret
    rw [E.out]
    exact ⟨by first | rfl | (push_cast; rfl), hB⟩
  have n0 : (((sub.size : Nat) : Int) == 0) = false := beq_eq_false_iff_ne.2 (by omega)
  by_cases h1 : sub.size = 1
  · have i0' : 0 < sub.size := by omega
    have E := Lib.hid (cntB_one s sub h1 i0')
    have n1 : (((sub.size : Nat) : Int) == 1) = true := beq_iff_eq.2 (by omega)
    have i0 : (0 : Int) < sub.size := by omega
    have k0 : w.cell? ⟨b2, o2, none⟩ = some (.int .u8 ((sub[0]'i0').toNat : Int)) := by simpa using r2 0 (by omega)
    have H := Lib.hid (countRow b1 o1 c1 s ((sub[0]'i0').toNat : Int) (by omega) (by omega) (by have := (sub[0]'i0').toNat_lt; omega) w r1)
    clear h0 h1 r1 r2
    go_enter Try.func19, Try.ntmps19
    go_wp2_with (go_at_call 29; refine H.out.mono ?_; rintro e w' ⟨rfl, rfl⟩)
    go_ret
    rw [E.out]
    exact ⟨by first | rfl | simp, Below.refl _ _⟩
  have n1 : (((sub.size : Nat) : Int) == 1) = false := beq_eq_false_iff_ne.2 (by omega)
  have E := Lib.hid (cntB_more s sub (by omega))
  have h2 : 2 ≤ sub.size := by omega
  have R1 := Lib.hid r1
  have R2 := Lib.hid r2
  clear h0 h1 r1 r2
  go_enter Try.func19, Try.ntmps19
  go_wp2_with fail
  go_loopw [0, 5, 6] (fun v0 v5 _ wr => CntRel b1 c1 s sub w v0 v5 wr) (fun v0 _ _ _ => match v0 with | .slice _ n _ => n | _ => 0)
  case atStart => exact ⟨0, 0, o1, rfl, by rw [ByteArray.extract_zero_size]; exact R1.out, rfl, Nat.zero_le _, Nat.le_refl _, by rw [ByteArray.extract_zero_size, Nat.zero_add], 0, rfl⟩
  case round =>
    obtain ⟨i, k, x, rfl, hrx, rfl, hi, hki, hc, q, rfl⟩ := hrel
    have HC := Lib.hid hc
    clear hc
    obtain ⟨sk, hsk⟩ : ∃ sk, s.extract i s.size = sk := ⟨_, rfl⟩
    have hz : sk.size = s.size - i := by rw [← hsk, ByteArray.size_extract]; omega
    rw [hsk] at HC hrx
    have RK := Lib.hid hrx
    clear hrx
    have HI := Lib.hid (indexRow b1 x (c1 - i) b2 o2 c2 sk sub (w.drewN q) (by omega) (by omega) (RK.out.drewN q) (R2.out.drewN q) (by omega))
    rw [hz] at HI
    rcases Lib.indexB_cases sk sub with hix | ⟨j, hix, hroom⟩
    · have HX := Lib.hid hix
      clear hix
      go_wp2_with (go_at_call 30; refine HI.out.mono ?_; rintro e w' ⟨rfl, q', rfl⟩; rw [show Lib.index sk.data.toList sub.data.toList = _ from HX.out])
      go_ret
      refine ⟨?_, below_drewN (Below.refl _ _) _⟩
      have e0 := Lib.countB_miss sk sub HX.out
      have hc := HC.out
      rw [E.out, show Lib.countB s sub = k by omega]
      rfl
    · have HX := Lib.hid hix
      clear hix
      have c0 : (((j : Nat) : Int) == -1) = false := beq_eq_false_iff_ne.2 (by omega)
      have c3 : (0 : Int) ≤ ↑j + ↑sub.size := by omega
      have c4 : (↑j + ↑sub.size : Int) ≤ ((s.size - i : Nat) : Int) := by omega
      have e1 := Lib.hid (Lib.countB_hit sk sub j (by omega) HX.out)
      go_wp2_with (go_at_call 30; refine HI.out.mono ?_; rintro e w' ⟨rfl, q', rfl⟩; rw [show Lib.index sk.data.toList sub.data.toList = _ from HX.out])
      have hz2 : (sk.extract (j + sub.size) sk.size) = s.extract (i + (j + sub.size)) s.size := by
        rw [← hsk, ByteArray.extract_extract]
        congr 1
        rw [ByteArray.size_extract]
        omega
      refine ⟨⟨i + (j + sub.size), k + 1, if c1 - i = j + sub.size then x else x + (j + sub.size), ?_, ?_, by push_cast; rfl, by omega, by omega, ?_, _, rfl⟩, ?_⟩
      · by_cases hh : c1 - i = j + sub.size
        · simp only [if_pos hh, Nat.sub_sub]
        · simp only [if_neg hh, Nat.sub_sub]
      · rw [← hz2]
        by_cases hh : c1 - i = j + sub.size
        · rw [if_pos hh]
          intro y hy
          rw [ByteArray.size_extract] at hy
          omega
        · rw [if_neg hh]
          exact Row.sub RK.out (j + sub.size) sk.size (Nat.le_refl _)
      · have := e1.out
        have h3 := HC.out
        rw [← hz2]
        omega
      · show s.size - i - (j + sub.size) < s.size - i
        omega
set_option maxHeartbeats 800000 in
theorem implBytCount (g1 o1 c1 g2 o2 c2 : Nat) (s sep : ByteArray) (w : World) (hs : s.size < 4294967296) (hp : sep.size < 4294967296) (r1 : Row w g1 o1 s) (r2 : Row w g2 o2 sep) :
    Calls Try.prog 13 #[.slice (some ⟨g1, o1, none⟩) s.size c1, .slice (some ⟨g2, o2, none⟩) sep.size c2] w fun e w' => e = .returned (.int .i64 (cntB s sep)) ∧ Below w.heap.size w w' := by
  go_enter Try.func13, Try.ntmps13
  go_wp2_with fail
  refine (clone g1 o1 c1 s _ (by omega) r1).mono ?_
  rintro e w1 ⟨p1, cap1, rfl, p2, p3, p4, p5, k1, q1, bel1⟩
  go_wp2_with fail
  refine (clone g2 o2 c2 sep _ (by omega) (r2.later bel1)).mono ?_
  rintro e w2 ⟨q2, cap2, rfl, q3, q4, q5, q6, k2, q7, bel2⟩
  go_wp2_with (go_at_call 19; refine (gbCount _ _ _ _ _ _ s sep (by omega) (by omega) _ (q1.later bel2) q7 p2).mono ?_; rintro e w' ⟨rfl, hB⟩)
  go_ret
  exact ⟨rfl, chain (chain bel1 bel2) hB⟩
set_option maxHeartbeats 1600000 in
theorem walk_FnBytCount (a0 a1 : ByteArray) (w : World) (w0 : a0.size ≤ maxLen) (w1 : a1.size ≤ maxLen) :
    Calls Try.prog 5 #[.string a0, .string a1] w fun e w' => e = .returned (.bool true) ∧ Below w.heap.size w w' := by
  unfold maxLen at w0 w1
  by_cases h0 : 2147483647 < a0.size
  · go_enter Try.func5, Try.ntmps5
    go_wp2
    go_ret
    exact ⟨rfl, Below.refl _ _⟩
  by_cases h1 : 2147483647 < a1.size
  · go_enter Try.func5, Try.ntmps5
    go_wp2
    go_ret
    exact ⟨rfl, Below.refl _ _⟩
  have hab : Hid (cntB ⟨#[97, 98]⟩ ⟨#[98]⟩ = 1) := by show _ = _; decide
  have hcl := cntB_le a0 a1
  have hcv := hconv
  have ka := kc1
  have kb := kc2
  by_cases hz : a1.size = 0
  · have he : a1.toList.isEmpty = true := by rw [empty_of]; simpa using hz
    have HL := Lib.hid (starts_count a0 a1 hz)
    have hsl := starts_le a0
    clear hz
    go_enter Try.func5, Try.ntmps5
    go_wp2_with (first
      | (go_at_call 11; refine (seBreaks a0 a1 (-1) (by omega) (by omega) _).mono ?_; rintro e w2 ⟨v2, rfl, hown2, hB2⟩; obtain ⟨a2, cap2, rfl, hc2, hr2⟩ := own_ints hown2; clear hr2 hown2 hc2)
      | (go_at_call 12; refine (seStarts a0 (by omega) _).mono ?_; rintro e w2b ⟨v3, rfl, hown3, hB3⟩; obtain ⟨a3, cap3, rfl, hc3, hr3⟩ := own_ints hown3; clear hr3 hown3 hc3))
    all_goals
      refine (implBytCount _ _ _ _ _ _ a0 a1 _ (by omega) (by omega) ?_ ?_).mono ?_
      · exact ((Row.new _ _ _ _ _).alloc _).drew.drew
      · exact (Row.new1 _ _ _ _ _ _ (by simp)).drew.drew
      rintro e w3 ⟨rfl, hb⟩
      rw [← HL.out]
      have hb3 := below_conv2 _ _ _ _ hb
      clear hb
      go_wp2_with fail
      refine (implBytCount _ _ _ _ _ _ ⟨#[97, 98]⟩ ⟨#[98]⟩ _ (by decide) (by decide) ?_ ?_).mono ?_
      · exact (Row.const w3 ⟨#[97, 98]⟩ #[.int .u8 97, .int .u8 98] (by kernel_rfl) _ _).alloc _
      · exact Row.const1 (w3.alloc _) ⟨#[98]⟩ #[.int .u8 98] (by kernel_rfl) _ _ _ (by simp)
      rintro e w5 ⟨rfl, hb⟩
      have hb5 := chain hb3 (below_const2 _ _ _ _ hb)
      clear hb hb3
      rw [hab.out]
      go_wp2_with fail
      go_ret
      exact ⟨rfl, chain (chain hB2 hB3) hb5⟩
  have he : a1.toList.isEmpty = false := by rw [empty_of]; simpa using hz
  have HL := Lib.hid (breaks_count a0 a1 (by omega))
  clear hz
  go_enter Try.func5, Try.ntmps5
  go_wp2_with (go_at_call 11; refine (seBreaks a0 a1 (-1) (by omega) (by omega) _).mono ?_; rintro e w2 ⟨v2, rfl, hown2, hB2⟩; obtain ⟨a2, cap2, rfl, hc2, hr2⟩ := own_ints hown2; clear hr2 hown2 hc2; rw [HL.out])
  all_goals
      refine (implBytCount _ _ _ _ _ _ a0 a1 _ (by omega) (by omega) ?_ ?_).mono ?_
      · exact ((Row.new _ _ _ _ _).alloc _).drew.drew
      · exact (Row.new1 _ _ _ _ _ _ (by simp)).drew.drew
      rintro e w3 ⟨rfl, hb⟩
      have hb3 := below_conv2 _ _ _ _ hb
      clear hb
      go_wp2_with fail
      refine (implBytCount _ _ _ _ _ _ ⟨#[97, 98]⟩ ⟨#[98]⟩ _ (by decide) (by decide) ?_ ?_).mono ?_
      · exact (Row.const w3 ⟨#[97, 98]⟩ #[.int .u8 97, .int .u8 98] (by kernel_rfl) _ _).alloc _
      · exact Row.const1 (w3.alloc _) ⟨#[98]⟩ #[.int .u8 98] (by kernel_rfl) _ _ _ (by simp)
      rintro e w5 ⟨rfl, hb⟩
      have hb5 := chain hb3 (below_const2 _ _ _ _ hb)
      clear hb hb3
      rw [hab.out]
      go_wp2_with fail
      go_ret
      exact ⟨rfl, chain hB2 hb5⟩
end Go.Proofs.Ythnbifkcbeldmaa
