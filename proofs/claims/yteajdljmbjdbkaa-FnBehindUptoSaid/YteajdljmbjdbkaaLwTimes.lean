/- spec.Repeated; the law FnTimes in its second form. -/
import Derived.Test.YteajdljmbjdbkaaRpLaw
import Derived.Laws.BitsLemmas
namespace Go.Proofs.Yteajdljmbjdbkaa
open Go.RowKit Go.Lib
set_option linter.unusedVariables false

theorem and255 (n : Int) : bits .and .i64 n 255 = n % 256 := by
  have h : (BitVec.ofInt 64 255).toNat = 2 ^ 8 - 1 := by decide
  have key : (BitVec.ofInt 64 n &&& BitVec.ofInt 64 255).toNat = (n % ((2 ^ 64 : Nat) : Int)).toNat % 2 ^ 8 := by
    rw [BitVec.toNat_and, BitVec.toNat_ofInt, h, Nat.and_two_pow_sub_one_eq_mod]
  show IntKind.i64.wrap ((BitVec.ofInt 64 n &&& BitVec.ofInt 64 255).toNat : Nat) = n % 256
  rw [key, IntKind.wrap_i64]
  omega
theorem and24 (n : Int) : bits .and .i64 n 16777215 = n % 16777216 := by
  have h : (BitVec.ofInt 64 16777215).toNat = 2 ^ 24 - 1 := by decide
  have key : (BitVec.ofInt 64 n &&& BitVec.ofInt 64 16777215).toNat = (n % ((2 ^ 64 : Nat) : Int)).toNat % 2 ^ 24 := by
    rw [BitVec.toNat_and, BitVec.toNat_ofInt, h, Nat.and_two_pow_sub_one_eq_mod]
  show IntKind.i64.wrap ((BitVec.ofInt 64 n &&& BitVec.ofInt 64 16777215).toNat : Nat) = n % 16777216
  rw [key, IntKind.wrap_i64]
  omega
/-- a text so many times -/
def timesL (s : ByteArray) (k : Nat) : List UInt8 := (List.replicate k s.data.toList).flatten
theorem timesL_length (s : ByteArray) (k : Nat) : (timesL s k).length = k * s.size := by simp [timesL]
theorem timesL_succ (s : ByteArray) (k : Nat) : timesL s (k + 1) = timesL s k ++ s.data.toList := by
  rw [timesL, timesL, List.replicate_succ']
  simp
def RtRel (w : World) (s : ByteArray) (k : Nat) (v5 v6 : Value) (wr : World) : Prop := ∃ i : Nat, v6 = .int .i64 (i : Int) ∧ i ≤ k ∧ OwnB wr w.heap.size v5 (timesL s i) ∧ Below w.heap.size w wr
set_option maxHeartbeats 1600000 in
set_option maxRecDepth 100000 in
theorem specRepeated (s : ByteArray) (k : Nat) (w : World) (hk : k ≤ 255) (hz : s.size ≤ 1048576) :
    Calls Try.prog 22 #[.string s, .int .i64 (k : Int)] w fun e w' => e = .returned (.string ⟨(timesL s k).toArray⟩) ∧ Below w.heap.size w w' := by
  go_enter Try.func22, Try.ntmps22
  go_wp2_with fail
  go_loopw [5, 6] (RtRel w s k) (fun _ i _ => k - (RowKit.intOf i).toNat)
  case atStart => exact ⟨0, rfl, Nat.zero_le _, OwnB.nil _ _, Below.refl _ _⟩
  case round =>
    obtain ⟨i, rfl, hi, hown, B⟩ := hrel
    have HOWN := Lib.hid hown
    have hBs := B.size
    by_cases hlt : i < k
    · have e1 : (i : Int) < (k : Int) := by omega
      have hlen : (timesL s i).length + s.size ≤ 140737488355328 := by
        rw [timesL_length]
        have := Nat.mul_le_mul (Nat.le_trans hi hk) hz
        omega
      have HTS := Lib.hid (timesL_succ s i)
      clear hown
      go_wp2_with (at_builtin; refine appB_str (by rfl) _ _ _ Try.underlying44 (by rfl) wr w.heap.size _ (timesL s i) s (by rfl) (by rfl) HOWN.out hlen hBs ?_; intro v2 w2 hown2 hgr; have HB2 := Lib.hid (below_appB B HOWN.out (Nat.le_refl _) hBs hgr); have HO2 := Lib.hid hown2; clear hown2 hgr)
      go_roundw
      case rel => exact ⟨i + 1, by go_num, by omega, by rw [HTS.out]; exact HO2.out, HB2.out⟩
      case measure => simp [RowKit.intOf]; omega
    · obtain rfl : i = k := by omega
      have e1 : ¬ ((i : Int) < (i : Int)) := by omega
      have hback := hown.back 44 Try.underlying44
      clear hown hlt
      go_wp2_with fail
      go_ret
      exact ⟨rfl, B⟩
set_option maxHeartbeats 3200000 in
set_option maxRecDepth 100000 in
theorem law_times (a : Option Addr) (n cap : Nat) (l : List ByteArray) (m : Int) (w : World) (hA : Args w a n cap l) :
    Calls Try.prog 3 #[.slice a (2 * n) cap, .int .i64 m] w fun e w' => e = .returned (.bool true) ∧ Below w.heap.size w w' := by
  have hnot : ∀ (x : Bool) (w : World), (Op.unary .not (.bool x)).run Try.prog w = .ok (.bool (!x)) w := fun _ _ => rfl
  have hfit := Lib.hid (hA.hl ▸ fits_yes a cap w.heap.size l w hA.hs (by have := hA.hn; have := hA.hl; omega) hA.big)
  have HA := Lib.hid hA
  have hn := hA.hn
  have HSO := Lib.hid (specSolid n cap a l w hA.hl hA.hs (by omega))
  rcases Nat.eq_zero_or_pos n with rfl | hn0
  · clear hA
    go_enter Try.func3, Try.ntmps3
    go_wp2_with (first
      | (go_at_call 18; refine hfit.out.mono ?_; rintro e w' ⟨rfl, rfl⟩)
      | (go_at_call 19; refine (even_yes a 0 cap _ (by omega)).mono ?_; rintro e w' ⟨rfl, rfl⟩))
    go_ret
    exact ⟨rfl, Below.refl _ _⟩
  · by_cases hsol : SolidN l n
    · have HY := Lib.hid (solid_yes HSO.out hsol)
      have h0 : 0 < l.length := by have := hA.hl; omega
      have h1 : 1 < l.length := by have := hA.hl; omega
      obtain ⟨x, rfl, hx, hc0⟩ := hA.hs 0 h0
      obtain ⟨x', hx', _, hc1⟩ := hA.hs 1 h1
      obtain rfl := Option.some.inj hx'
      rw [show x.add 0 = x by unfold Addr.add; split <;> simp_all] at hc0
      rw [show x.add 1 = x.add (0 + 1) from rfl, Addr.add_succ'] at hc1
      obtain ⟨k, hk, hkn⟩ : ∃ k : Nat, k ≤ 255 ∧ bits .and .i64 m 255 = (k : Int) := ⟨(m % 256).toNat, by omega, by rw [and255]; omega⟩
      have hk0 := hA.hk l[0] (List.getElem_mem _)
      have hk1 := hA.hk l[1] (List.getElem_mem _)
      obtain ⟨p, q, r, rfl⟩ : ∃ p q r, l = p :: q :: r := by
        match l, h0, h1 with
        | p :: q :: r, _, _ => exact ⟨p, q, r, rfl⟩
      have hs2 : SolidL (prs (p :: q :: r)) := hsol.prs hA.hl
      have hrep := rep_times (l := prs r) (o := p.data.toList) (n := q.data.toList) hs2 k
      have hlen0 := timesL_length p k
      have hlen1 := timesL_length q k
      obtain ⟨T, hT⟩ : ∃ T : ByteArray → ByteArray, ∀ s, T s = ⟨(timesL s k).toArray⟩ := ⟨_, fun _ => rfl⟩
      have hR := Lib.hid (fun (s : ByteArray) (W : World) (hs : s.size ≤ 1048576) => (hT s) ▸ specRepeated s k W hk hs)
      have hsz0 : (⟨(timesL p k).toArray⟩ : ByteArray).size ≤ 1073741824 := by
        show (timesL p k).toArray.size ≤ _
        rw [List.size_toArray, hlen0]
        exact Nat.le_trans (Nat.mul_le_mul hk hk0) (by omega)
      have hrep2 : rep (prs (p :: q :: r)) true (⟨(timesL p k).toArray⟩ : ByteArray).data.toList = timesL q k := hrep
      have HRI := Lib.hid (fun (W : World) (hb : Below w.heap.size w W) => rpIs_yes n cap (some x) (p :: q :: r) (T p) (T q) W (HA.out.later hb).hl (HA.out.later hb).hs (by omega) (HA.out.later hb).big (HA.out.later hb).hcap (by rw [hT]; exact hsz0) (by
        rw [hT, hrep2, hlen1]
        exact Nat.le_trans (Nat.mul_le_mul hk hk1) (by omega)) (by rw [hT q, hT p, hrep2]))
      have HKN := Lib.hid hkn
      have HC0 := Lib.hid hc0
      have HC1 := Lib.hid hc1
      have hne : ¬ (2 * (n : Int) = 0) := by omega
      have hne2 : (2 * (n : Int) == 0) = false := beq_eq_false_iff_ne.2 hne
      have e2 : (0 : Int) < 2 * (n : Int) := by omega
      have e3 : (1 : Int) < 2 * (n : Int) := by omega
      clear hA hsol hs2 hrep hrep2 hsz0 hT hlen0 hlen1 hkn hc0 hc1 hx'
      go_enter Try.func3, Try.ntmps3
      go_wp2_with (first
        | (go_at_call 18; refine hfit.out.mono ?_; rintro e w' ⟨rfl, rfl⟩)
        | (go_at_call 19; refine (even_yes (some x) n cap _ (by omega)).mono ?_; rintro e w' ⟨rfl, rfl⟩)
        | (go_at_call 20; refine HY.out.mono ?_; rintro e w1 ⟨rfl, B1⟩; have hc0 : w1.cell? x = some (.string p) := (B1.cell (p := x) hx).trans HC0.out; have hc1 : w1.cell? ⟨x.block, x.off + 1, none⟩ = some (.string q) := (B1.cell (p := ⟨x.block, x.off + 1, none⟩) hx).trans HC1.out; have hx1 : x.block < w1.heap.size := Nat.lt_of_lt_of_le hx B1.size))
      try rw [HKN.out]
      go_region_held3 (fun w' => w'.cell? x = some (.string p) ∧ w'.cell? ⟨x.block, x.off + 1, none⟩ = some (.string q)) (go_keep) (first
        | (go_at_call 22; have B12' := B12; refine (hR.out _ _ hk1).mono ?_; rintro e w3 ⟨rfl, B3⟩; have B13 : Below w.heap.size w w3 := B12.trans (B3.mono B12.size); have hx3 := Nat.lt_of_lt_of_le hx2 B3.size; have hc0'' := (B3.cell (p := x) hx2).trans hc0'; have hc1'' := (B3.cell (p := ⟨x.block, x.off + 1, none⟩) hx2).trans hc1')
        | (go_at_call 22; refine (hR.out _ _ hk0).mono ?_; rintro e w2 ⟨rfl, B2⟩; have B12 : Below w.heap.size w w2 := (Below.drew B1).trans (B2.mono B1.size); have hx2 := Nat.lt_of_lt_of_le hx1 B2.size; have hc0' := (B2.cell (p := x) hx1).trans hc0; have hc1' := (B2.cell (p := ⟨x.block, x.off + 1, none⟩) hx1).trans hc1)
        | (go_at_call 21; refine (HRI.out _ B13).mono ?_; rintro e w4 ⟨rfl, B4⟩; have hc0''' := (B4.cell (p := x) hx3).trans hc0''; have hc1''' := (B4.cell (p := ⟨x.block, x.off + 1, none⟩) hx3).trans hc1''))
      go_wp2_with fail
      go_ret
      exact ⟨rfl, B13.trans (B4.mono B13.size)⟩
    · have HY := Lib.hid (solid_no HSO.out hsol)
      clear hA hsol
      have hne2 : (2 * (n : Int) == 0) = false := beq_eq_false_iff_ne.2 (by omega)
      go_enter Try.func3, Try.ntmps3
      go_wp2_with (first
        | (go_at_call 18; refine hfit.out.mono ?_; rintro e w' ⟨rfl, rfl⟩)
        | (go_at_call 19; refine (even_yes a n cap _ (by omega)).mono ?_; rintro e w' ⟨rfl, rfl⟩)
        | (go_at_call 20; refine HY.out.mono ?_; rintro e w1 ⟨rfl, B1⟩))
      go_ret
      exact ⟨rfl, B1⟩
theorem walk_FnTimes (a0 : Option Addr) (len0 cap0 : Nat) (z0 : List ByteArray) (a1 : Int) (w : World) (w0 : IsStrs w a0 len0 cap0 z0) (b0 : Short len0 z0) (w1 : (Lit.int .i64 a1).wf = true) :
    Calls Try.prog 3 #[.slice a0 len0 cap0, .int .i64 a1] w fun e w' => e = .returned (.bool true) ∧ Below w.heap.size w w' := by
  have hc := short_cap w0
  obtain ⟨l, rfl, hs, hn, hk, _⟩ := strs_of_short w0 b0
  obtain ⟨n, hn2 | hn2⟩ := even_odd l.length
  · rw [hn2]
    exact law_times a0 n cap0 l a1 w ⟨hn2, hs, by omega, hk, hc⟩
  · rw [hn2]
    have hnot : ∀ (x : Bool) (w : World), (Op.unary .not (.bool x)).run Try.prog w = .ok (.bool (!x)) w := fun _ _ => rfl
    have hfit := Lib.hid (hn2 ▸ fits_yes a0 cap0 w.heap.size l w hs (by omega) (fun s h => by have := hk s h; omega))
    clear hs hk
    go_enter Try.func3, Try.ntmps3
    go_wp2_with (first
      | (go_at_call 18; refine hfit.out.mono ?_; rintro e w' ⟨rfl, rfl⟩)
      | (go_at_call 19; refine (even_no a0 n cap0 _ (by omega)).mono ?_; rintro e w' ⟨rfl, rfl⟩))
    go_ret
    exact ⟨rfl, Below.refl _ _⟩
end Go.Proofs.Yteajdljmbjdbkaa
