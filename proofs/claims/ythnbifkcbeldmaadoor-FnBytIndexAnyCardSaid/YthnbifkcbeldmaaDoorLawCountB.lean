/- The law FnBytCount. -/
import Derived.Test.YthnbifkcbeldmaaDoorCountB
import Derived.Test.YthnbifkcbeldmaaDoorLawCount
namespace Go.Proofs.YthnbifkcbeldmaaDoor
open Go.RowKit Go.Lib
set_option linter.unusedVariables false

/-- the loop of Count: what is left of the row, and how often it was found -/
def CntRel (b c : Nat) (s sub : ByteArray) (w : World) (v0 v5 : Value) (wr : World) : Prop :=
  ∃ i k x : Nat, v0 = .slice (some ⟨b, x, none⟩) (s.size - i) (c - i) ∧ Row w b x (s.extract i s.size) ∧ v5 = .int .i64 (k : Int) ∧ i ≤ s.size ∧ k ≤ i ∧ k + Lib.countB (s.extract i s.size) sub = Lib.countB s sub ∧ ∃ q, wr = w.drewN q
set_option maxHeartbeats 4000000 in
set_option maxRecDepth 100000 in
theorem gbCount (b1 o1 c1 b2 o2 c2 : Nat) (s sub : ByteArray) (hs : s.size < 1152921504606846976) (hp : sub.size < 1152921504606846976) (w : World) (r1 : Row w b1 o1 s) (r2 : Row w b2 o2 sub) (hcap : s.size ≤ c1) :
    Calls Tryd.prog 92 #[.slice (some ⟨b1, o1, none⟩) s.size c1, .slice (some ⟨b2, o2, none⟩) sub.size c2] w fun e w' => e = .returned (.int .i64 (cntB s sub)) ∧ Below w.heap.size w w' := by
  by_cases h0 : sub.size = 0
  · have E := Lib.hid (cntB_empty s sub h0)
    have n0 : (((sub.size : Nat) : Int) == 0) = true := beq_iff_eq.2 (by omega)
    have hrc := runeCount_le s
    have H := Lib.hid (runeCountRow b1 o1 c1 s (by omega) hcap w r1)
    clear h0 r1 r2
    go_enter Tryd.func92, Tryd.ntmps92
    go_wp2_with (go_at_call 125; refine H.out.mono ?_; rintro e w' ⟨rfl, hB⟩)
    go_ret
    rw [E.out]
    exact ⟨by first | rfl | (push_cast; rfl), hB⟩
  have n0 : (((sub.size : Nat) : Int) == 0) = false := beq_eq_false_iff_ne.2 (by omega)
  by_cases h1 : sub.size = 1
  · have i0' : 0 < sub.size := by omega
    have E := Lib.hid (cntB_one s sub h1 i0')
    have n1 : (((sub.size : Nat) : Int) == 1) = true := beq_iff_eq.2 (by omega)
    have i0 : (0 : Int) < sub.size := by omega
    have k0 : w.cell? ⟨b2, o2, none⟩ = some (.int .u8 ((sub[0]'i0').toNat : Int)) := by simpa using r2 0 (by omega)
    have H := Lib.hid (countRow b1 o1 c1 s ((sub[0]'i0').toNat : Int) (by omega) (by omega) (by have := (sub[0]'i0').toNat_lt; omega) w r1)
    clear h0 h1 r1 r2
    go_enter Tryd.func92, Tryd.ntmps92
    go_wp2_with (go_at_call 126; refine H.out.mono ?_; rintro e w' ⟨rfl, rfl⟩)
    go_ret
    rw [E.out]
    exact ⟨by first | rfl | simp, Below.refl _ _⟩
  have n1 : (((sub.size : Nat) : Int) == 1) = false := beq_eq_false_iff_ne.2 (by omega)
  have E := Lib.hid (cntB_more s sub (by omega))
  have h2 : 2 ≤ sub.size := by omega
  have R1 := Lib.hid r1
  have R2 := Lib.hid r2
  clear h0 h1 r1 r2
  go_enter Tryd.func92, Tryd.ntmps92
  go_wp2_with fail
  go_loopw [0, 5, 6] (fun v0 v5 _ wr => CntRel b1 c1 s sub w v0 v5 wr) (fun v0 _ _ _ => match v0 with | .slice _ n _ => n | _ => 0)
  case atStart => exact ⟨0, 0, o1, rfl, by rw [ByteArray.extract_zero_size]; exact R1.out, rfl, Nat.zero_le _, Nat.le_refl _, by rw [ByteArray.extract_zero_size, Nat.zero_add], 0, rfl⟩
  case round =>
    obtain ⟨i, k, x, rfl, hrx, rfl, hi, hki, hc, q, rfl⟩ := hrel
    have HC := Lib.hid hc
    clear hc
    obtain ⟨sk, hsk⟩ : ∃ sk, s.extract i s.size = sk := ⟨_, rfl⟩
    have hz : sk.size = s.size - i := by rw [← hsk, ByteArray.size_extract]; omega
    rw [hsk] at HC hrx
    have RK := Lib.hid hrx
    clear hrx
    have HI := Lib.hid (indexRow b1 x (c1 - i) b2 o2 c2 sk sub (w.drewN q) (by omega) (by omega) (RK.out.drewN q) (R2.out.drewN q) (by omega))
    rw [hz] at HI
    rcases Lib.indexB_cases sk sub with hix | ⟨j, hix, hroom⟩
    · have HX := Lib.hid hix
      clear hix
      go_wp2_with (go_at_call 93; refine HI.out.mono ?_; rintro e w' ⟨rfl, q', rfl⟩; rw [show Lib.index sk.data.toList sub.data.toList = _ from HX.out])
      go_ret
      refine ⟨?_, below_drewN (Below.refl _ _) _⟩
      have e0 := Lib.countB_miss sk sub HX.out
      have hc := HC.out
      rw [E.out, show Lib.countB s sub = k by omega]
      rfl
    · have HX := Lib.hid hix
      clear hix
      have c0 : (((j : Nat) : Int) == -1) = false := beq_eq_false_iff_ne.2 (by omega)
      have c3 : (0 : Int) ≤ ↑j + ↑sub.size := by omega
      have c4 : (↑j + ↑sub.size : Int) ≤ ((s.size - i : Nat) : Int) := by omega
      have e1 := Lib.hid (Lib.countB_hit sk sub j (by omega) HX.out)
      go_wp2_with (go_at_call 93; refine HI.out.mono ?_; rintro e w' ⟨rfl, q', rfl⟩; rw [show Lib.index sk.data.toList sub.data.toList = _ from HX.out])
      have hz2 : (sk.extract (j + sub.size) sk.size) = s.extract (i + (j + sub.size)) s.size := by
        rw [← hsk, ByteArray.extract_extract]
        congr 1
        rw [ByteArray.size_extract]
        omega
      refine ⟨⟨i + (j + sub.size), k + 1, if c1 - i = j + sub.size then x else x + (j + sub.size), ?_, ?_, by push_cast; rfl, by omega, by omega, ?_, _, rfl⟩, ?_⟩
      · by_cases hh : c1 - i = j + sub.size
        · simp only [if_pos hh, Nat.sub_sub]
        · simp only [if_neg hh, Nat.sub_sub]
      · rw [← hz2]
        by_cases hh : c1 - i = j + sub.size
        · rw [if_pos hh]
          intro y hy
          rw [ByteArray.size_extract] at hy
          omega
        · rw [if_neg hh]
          exact Row.sub RK.out (j + sub.size) sk.size (Nat.le_refl _)
      · have := e1.out
        have h3 := HC.out
        rw [← hz2]
        omega
      · show s.size - i - (j + sub.size) < s.size - i
        omega
end Go.Proofs.YthnbifkcbeldmaaDoor
