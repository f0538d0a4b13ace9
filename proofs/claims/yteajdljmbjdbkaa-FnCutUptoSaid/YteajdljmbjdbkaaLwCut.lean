/- The law FnCut in its second form. -/
import Derived.Test.YteajdljmbjdbkaaHasB
import Derived.ProofKit
import Derived.WalkArith
import Derived.OpenShut
import Derived.Laws.Concat
namespace Go.Proofs.Yteajdljmbjdbkaa
open Go.RowKit Go.Lib
set_option linter.unusedVariables false

def one1 (c : UInt8) : ByteArray := ⟨#[c]⟩
theorem ba_size (l : List UInt8) : (⟨l.toArray⟩ : ByteArray).size = l.length := by
  show l.toArray.size = _
  simp
theorem run_one (w : World) (o : UInt8) (T : TypeId) : (convert 44 9 (.slice (some ⟨w.heap.size, 0, none⟩) 1 1)).run Try.prog (w.alloc (.cells #[.int .u8 (o.toNat : Int)] T)) = .ok (.string (one1 o)) (w.alloc (.cells #[.int .u8 (o.toNat : Int)] T)) := by
  rw [run_str1]
  rfl
set_option maxHeartbeats 3200000 in
set_option maxRecDepth 100000 in
theorem law_cut (a : Option Addr) (n cap : Nat) (l : List ByteArray) (s t : ByteArray) (c : UInt8) (w : World) (hA : Args w a n cap l) (hz : s.size ≤ 1048576) (hzt : t.size ≤ 1048576) :
    Calls Try.prog 11 #[.slice a (2 * n) cap, .string s, .int .u8 (c.toNat : Int), .string t] w fun e w' => e = .returned (.bool true) ∧ Below w.heap.size w w' := by
  have hnot : ∀ (x : Bool) (w : World), (Op.unary .not (.bool x)).run Try.prog w = .ok (.bool (!x)) w := fun _ _ => rfl
  have hfit := Lib.hid (hA.hl ▸ fits_yes a cap w.heap.size l w hA.hs (by have := hA.hn; have := hA.hl; omega) hA.big)
  have HA := Lib.hid hA
  have hn := hA.hn
  have HSO := Lib.hid (specSolid n cap a l w hA.hl hA.hs (by omega))
  by_cases hsol : SolidN l n
  · have HY := Lib.hid (solid_yes HSO.out hsol)
    have HOL := Lib.hid (fun (W : World) (hb : Below w.heap.size w W) => specOlds n cap a l W (HA.out.later hb).hl (HA.out.later hb).hs (by omega))
    have HSOL := Lib.hid hsol
    clear hA hsol
    go_enter Try.func11, Try.ntmps11
    go_wp2_with (first
      | (go_at_call 18; refine hfit.out.mono ?_; rintro e w' ⟨rfl, rfl⟩)
      | (go_at_call 19; refine (even_yes a n cap _ (by omega)).mono ?_; rintro e w' ⟨rfl, rfl⟩)
      | (go_at_call 20; refine HY.out.mono ?_; rintro e w1 ⟨rfl, B1⟩)
      | (go_at_call 31; refine (HOL.out _ B1).mono ?_; rintro e w2 ⟨v, rfl, hown, hB2⟩; obtain ⟨ao, c1, rfl, _, hst⟩ := hown.form; have HST := Lib.hid hst; have B2 : Below w.heap.size w w2 := B1.trans (hB2.mono B1.size); clear hst hown hB2; rw [oldsTo_length]))
    go_loop [36] (fun v => ∃ j : Nat, j ≤ n ∧ v = .int .i64 (j : Int) ∧ ∀ i, i < j → c ∉ (l.getD (2 * i) ⟨#[]⟩).data.toList) (fun v => n - (RowKit.intOf v).toNat)
    case atStart => exact ⟨0, Nat.zero_le _, rfl, fun i h => absurd h (Nat.not_lt_zero _)⟩
    case round =>
      obtain ⟨j, hj, rfl, hall⟩ := hrel
      have HALL := Lib.hid hall
      clear hall
      by_cases hlt : j < n
      · obtain ⟨x, rfl, _, hc⟩ := HST.out j (by rw [oldsTo_length]; exact hlt)
        rw [oldsTo_get l n j hlt] at hc
        have e1 : (j : Int) < n := by omega
        have hzs : (l.getD (2 * j) ⟨#[]⟩).size ≤ 1048576 := by
          have h2 : 2 * j < l.length := by have := HA.out.hl; omega
          rw [show l.getD (2 * j) ⟨#[]⟩ = l[2 * j] by simp [List.getD, h2]]
          exact HA.out.hk _ (List.getElem_mem _)
        generalize hzg : l.getD (2 * j) ⟨#[]⟩ = z at *
        have HZ := Lib.hid hzg
        clear hzg
        have HB := Lib.hid (fun (W : World) => specHasByte z c W (by omega))
        by_cases hm : hasB z c = true
        · rw [hm] at HB
          clear hm
          go_wp2_with (go_at_call 32; refine (HB.out _).mono ?_; rintro e w' ⟨rfl, rfl⟩)
          go_ret
          exact ⟨rfl, B2⟩
        · rw [eq_false_of_ne_true hm] at HB
          have HM : Hid (c ∉ z.data.toList) := Lib.hid (fun h => hm (decide_eq_true h))
          clear hm
          go_wp2_with (go_at_call 32; refine (HB.out _).mono ?_; rintro e w' ⟨rfl, rfl⟩)
          go_round
          case rel => exact ⟨j + 1, by omega, by go_num, fun i hi => by
            by_cases e : i = j
            · subst e; rw [HZ.out]; exact HM.out
            · exact HALL.out i (by omega)⟩
          case measure => simp [RowKit.intOf]; omega
      · obtain rfl : j = n := by omega
        have e1 : ¬ ((j : Int) < j) := by omega
        have hl := HA.out.hl
        have hcut : ∀ p ∈ prs l, c ∉ p.1 := fun p hp => by
          obtain ⟨i, hi, rfl⟩ := prs_mem l p hp
          exact HALL.out i (by omega)
        have hrep := rep_cut (HSOL.out.prs hl) hcut t.data.toList s.data.toList
        have hs1 := rep_small1 HA.out.hk s hz
        have hs2 := rep_small1 HA.out.hk t hzt
        obtain ⟨rs, hrs⟩ : ∃ r : ByteArray, r = ⟨(rep (prs l) true s.data.toList).toArray⟩ := ⟨_, rfl⟩
        obtain ⟨rt, hrt⟩ : ∃ r : ByteArray, r = ⟨(rep (prs l) true t.data.toList).toArray⟩ := ⟨_, rfl⟩
        have hrs2 : rs.size ≤ 4398046511104 := by rw [hrs, ba_size]; exact hs1
        have hrt2 : rt.size ≤ 4398046511104 := by rw [hrt, ba_size]; exact hs2
        have HT1 : Hid (∀ W, Below w.heap.size w W → Calls Try.prog 26 #[.slice a (2 * j) cap, .string s] W fun e w' => e = .returned (.string rs) ∧ Below W.heap.size W w') := Lib.hid (fun W hb => by
          rw [hrs]
          exact rpText_even j cap a l s W (HA.out.later hb).hl (HA.out.later hb).hs (by omega) (HA.out.later hb).big (HA.out.later hb).hcap (by omega) (Nat.le_trans hs1 (by omega)))
        have HT2 : Hid (∀ W, Below w.heap.size w W → Calls Try.prog 26 #[.slice a (2 * j) cap, .string t] W fun e w' => e = .returned (.string rt) ∧ Below W.heap.size W w') := Lib.hid (fun W hb => by
          rw [hrt]
          exact rpText_even j cap a l t W (HA.out.later hb).hl (HA.out.later hb).hs (by omega) (HA.out.later hb).big (HA.out.later hb).hcap (by omega) (Nat.le_trans hs2 (by omega)))
        have hin : (s ++ one1 c ++ t).data.toList = s.data.toList ++ c :: t.data.toList := by simp [ByteArray.data_append, one1]
        have HRI : Hid (∀ W, Below w.heap.size w W → Calls Try.prog 21 #[.slice a (2 * j) cap, .string (s ++ one1 c ++ t), .string (rs ++ one1 c ++ rt)] W fun e w' => e = .returned (.bool true) ∧ Below W.heap.size W w') := Lib.hid (fun W hb =>
          rpIs_yes j cap a l _ _ W (HA.out.later hb).hl (HA.out.later hb).hs (by omega) (HA.out.later hb).big (HA.out.later hb).hcap (by
            have h1 : (one1 c).size = 1 := rfl
            rw [ByteArray.size_append, ByteArray.size_append, h1]; omega) (by
            rw [hin, hrep]
            simp only [List.length_append, List.length_cons]
            omega) (by
            rw [hin, hrep]
            apply ByteArray.ext
            apply Array.ext'
            rw [hrs, hrt]
            simp [ByteArray.data_append, one1]))
        have BA := Lib.hid ((B2.alloc B2.size (.cells #[.int .u8 (c.toNat : Int)] 5)))
        have hone := run_one w2 c 5
        have z1 : (one1 c).size = 1 := rfl
        have ad1 : ∀ w : World, (Op.stringOp .add s (one1 c)).run Try.prog w = .ok (.string (s ++ one1 c)) w := fun w => run_string_add_sum (P := Try.prog) w _ _ (by omega)
        have ad2 : ∀ w : World, (Op.stringOp .add (s ++ one1 c) t).run Try.prog w = .ok (.string (s ++ one1 c ++ t)) w := fun w => run_string_add_sum (P := Try.prog) w _ _ (by rw [ByteArray.size_append]; omega)
        have ad3 : ∀ w : World, (Op.stringOp .add rs (one1 c)).run Try.prog w = .ok (.string (rs ++ one1 c)) w := fun w => run_string_add_sum (P := Try.prog) w _ _ (by omega)
        have ad4 : ∀ w : World, (Op.stringOp .add (rs ++ one1 c) rt).run Try.prog w = .ok (.string (rs ++ one1 c ++ rt)) w := fun w => run_string_add_sum (P := Try.prog) w _ _ (by rw [ByteArray.size_append]; omega)
        clear hs1 hs2 hrs hrt hin hrep hcut hl hlt HALL HSOL
        go_wp2_with (first
          | (go_at_call 26; have B3' := B3; refine (HT2.out _ B3').mono ?_; rintro e w4 ⟨rfl, hB4⟩; have B4 : Below w.heap.size w w4 := B3.trans (hB4.mono B3.size))
          | (go_at_call 26; refine (HT1.out _ BA.out).mono ?_; rintro e w3 ⟨rfl, hB3⟩; have B3 : Below w.heap.size w w3 := BA.out.trans (hB3.mono BA.out.size))
          | (go_at_call 21; refine (HRI.out _ B4).mono ?_; rintro e w5 ⟨rfl, hB5⟩))
        go_ret
        exact ⟨rfl, B4.trans (hB5.mono B4.size)⟩
  · have HY := Lib.hid (solid_no HSO.out hsol)
    clear hA hsol
    go_enter Try.func11, Try.ntmps11
    go_wp2_with (first
      | (go_at_call 18; refine hfit.out.mono ?_; rintro e w' ⟨rfl, rfl⟩)
      | (go_at_call 19; refine (even_yes a n cap _ (by omega)).mono ?_; rintro e w' ⟨rfl, rfl⟩)
      | (go_at_call 20; refine HY.out.mono ?_; rintro e w1 ⟨rfl, B1⟩))
    go_ret
    exact ⟨rfl, B1⟩
theorem walk_FnCut (a0 : Option Addr) (len0 cap0 : Nat) (z0 : List ByteArray) (a1 : ByteArray) (a2 : Int) (a3 : ByteArray) (w : World) (w0 : IsStrs w a0 len0 cap0 z0) (b0 : Short len0 z0) (w1 : a1.size ≤ maxLen) (b1 : a1.size ≤ 1048576) (w2 : (Lit.int .u8 a2).wf = true) (w3 : a3.size ≤ maxLen) (b3 : a3.size ≤ 1048576) :
    Calls Try.prog 11 #[.slice a0 len0 cap0, .string a1, .int .u8 a2, .string a3] w fun e w' => e = .returned (.bool true) ∧ Below w.heap.size w w' := by
  have hc := short_cap w0
  obtain ⟨hb0, hb1⟩ := bounds_u8 w2
  obtain ⟨c, rfl⟩ : ∃ c : UInt8, a2 = (c.toNat : Int) := ⟨a2.toNat.toUInt8, by simp; omega⟩
  obtain ⟨l, rfl, hs, hn, hk, _⟩ := strs_of_short w0 b0
  obtain ⟨n, hn2 | hn2⟩ := even_odd l.length
  · rw [hn2]
    exact law_cut a0 n cap0 l a1 a3 c w ⟨hn2, hs, by omega, hk, hc⟩ b1 b3
  · rw [hn2]
    have hnot : ∀ (x : Bool) (w : World), (Op.unary .not (.bool x)).run Try.prog w = .ok (.bool (!x)) w := fun _ _ => rfl
    have hfit := Lib.hid (hn2 ▸ fits_yes a0 cap0 w.heap.size l w hs (by omega) (fun s h => by have := hk s h; omega))
    clear hs hk
    go_enter Try.func11, Try.ntmps11
    go_wp2_with (first
      | (go_at_call 18; refine hfit.out.mono ?_; rintro e w' ⟨rfl, rfl⟩)
      | (go_at_call 19; refine (even_no a0 n cap0 _ (by omega)).mono ?_; rintro e w' ⟨rfl, rfl⟩))
    go_ret
    exact ⟨rfl, Below.refl _ _⟩
end Go.Proofs.Yteajdljmbjdbkaa
