/- The law FnBehind in its second form. -/
import Derived.Test.YteajdljmbjdbkaaPairs
import Derived.Test.YteajdljmbjdbkaaLwTimes
import Derived.Test.YteajdljmbjdbkaaGuardApp
namespace Go.Proofs.Yteajdljmbjdbkaa
open Go.RowKit Go.Lib
set_option linter.unusedVariables false

set_option maxHeartbeats 3200000 in
set_option maxRecDepth 100000 in
theorem law_behind (a : Option Addr) (n cap : Nat) (l : List ByteArray) (i : Int) (more new s : ByteArray) (w : World) (hA : Args w a n cap l) (hz1' : more.size ≤ 1048576) (hz2' : new.size ≤ 1048576) (hz : s.size ≤ 1048576) :
    Calls Try.prog 9 #[.slice a (2 * n) cap, .int .i64 i, .string more, .string new, .string s] w fun e w' => e = .returned (.bool true) ∧ Below w.heap.size w w' := by
  have hnot : ∀ (x : Bool) (w : World), (Op.unary .not (.bool x)).run Try.prog w = .ok (.bool (!x)) w := fun _ _ => rfl
  have hfit := Lib.hid (hA.hl ▸ fits_yes a cap w.heap.size l w hA.hs (by have := hA.hn; have := hA.hl; omega) hA.big)
  have HA := Lib.hid hA
  have hn := hA.hn
  have HSO := Lib.hid (specSolid n cap a l w hA.hl hA.hs (by omega))
  rcases Nat.eq_zero_or_pos n with rfl | hn0
  · clear hA
    go_enter Try.func9, Try.ntmps9
    go_wp2_with (first
      | (go_at_call 18; refine hfit.out.mono ?_; rintro e w' ⟨rfl, rfl⟩)
      | (go_at_call 19; refine (even_yes a 0 cap _ (by omega)).mono ?_; rintro e w' ⟨rfl, rfl⟩))
    go_ret
    exact ⟨rfl, Below.refl _ _⟩
  have hne : ¬ (2 * (n : Int) = 0) := by omega
  have hne2 : (2 * (n : Int) == 0) = false := beq_eq_false_iff_ne.2 hne
  by_cases hsol : SolidN l n
  · have HY := Lib.hid (solid_yes HSO.out hsol)
    obtain ⟨i0, hi, hz0, hz1, hz2⟩ := info_parts infoStr
    obtain ⟨k, hk, hkn⟩ : ∃ k : Nat, k ≤ 16777215 ∧ bits .and .i64 i 16777215 = (k : Int) := ⟨(i % 16777216).toNat, by omega, by rw [and24]; omega⟩
    obtain ⟨m, hm, hmd⟩ : ∃ m : Nat, m < n ∧ k % n = m := ⟨_, Nat.mod_lt _ hn0, rfl⟩
    have ht1 : (k : Int) % (n : Int) = (m : Int) := by rw [← hmd]; exact (Int.natCast_emod k n).symm
    have ht2 : Int.tmod (k : Int) (n : Int) = (m : Int) := by rw [Int.tmod_eq_emod_of_nonneg (by omega)]; exact ht1
    have hq1 : (2 * (n : Int)) / 2 = (n : Int) := by omega
    have hq2 : Int.tdiv (2 * (n : Int)) 2 = (n : Int) := by rw [Int.tdiv_eq_ediv_of_nonneg (by omega)]; exact hq1
    have hnz : ¬ ((n : Int) = 0) := by omega
    have hnz2 : ((n : Int) == 0) = false := beq_eq_false_iff_ne.2 hnz
    have e1 : (0 : Int) ≤ 2 * (m : Int) := by omega
    have e2 : 2 * (m : Int) < 2 * (n : Int) := by omega
    have h2m : 2 * m < l.length := by have := hA.hl; omega
    have h2m1 : 2 * m + 1 < l.length := by have := hA.hl; omega
    obtain ⟨x, rfl, hx, hc0⟩ := hA.hs (2 * m) h2m
    have HC0 := Lib.hid hc0
    obtain ⟨old, hold⟩ : ∃ o, l[2 * m] = o := ⟨_, rfl⟩
    rw [hold] at hc0
    have hos : old.size ≤ 1048576 := by rw [← hold]; exact hA.hk _ (List.getElem_mem _)
    have ad : ∀ w : World, (Op.stringOp .add old more).run Try.prog w = .ok (.string (old ++ more)) w := fun w => run_string_add_sum (P := Try.prog) w _ _ (by omega)
    have HC : Hid (∀ w1, Below w.heap.size w w1 → w1.cell? (x.add (2 * m)) = some (.string old)) := Lib.hid (fun w1 hb => (hb.cell (p := x.add (2 * m)) (by unfold Addr.add; split <;> exact hx)).trans hc0)
    have HRR := Lib.hid (fun (W : World) => rpReplaces W)
    have HCE : Hid (∀ W, Below w.heap.size w W → ∀ j v, (l.map Value.string)[j]? = some v → W.cell? (x.add j) = some v) := Lib.hid (fun W hb j v hj => by
      rw [List.getElem?_map] at hj
      obtain ⟨s, hs, rfl⟩ := Option.map_eq_some_iff.1 hj
      obtain ⟨hjl, rfl⟩ := List.getElem?_eq_some_iff.1 hs
      obtain ⟨y, hy, _, hc⟩ := (HA.out.later hb).hs j hjl
      obtain rfl := Option.some.inj hy
      exact hc)
    have hl := hA.hl
    obtain ⟨l2, hl2⟩ : ∃ l2, l2 = l ++ [old ++ more, new] := ⟨_, rfl⟩
    have hl2l : l2.length = 2 * (n + 1) := by rw [hl2, List.length_append, hl]; rfl
    have hprs : prs l2 = prs l ++ [(old.data.toList ++ more.data.toList, new.data.toList)] := by
      rw [hl2, prs_append _ _ n hl]
      simp [prs, ByteArray.data_append]
    have hmem : (old.data.toList, (l.getD (2 * m + 1) ⟨#[]⟩).data.toList) ∈ prs l := by
      have := prs_mem_of l m h2m1
      rw [show l.getD (2 * m) ⟨#[]⟩ = old by rw [← hold]; simp [List.getD, h2m]] at this
      exact this
    have hrep : ∀ t, rep (prs l2) true t = rep (prs l) true t := fun t => by
      rw [hprs]
      exact rep_behind (hsol.prs hl) hmem _ _ t
    have hbig2 : ∀ s ∈ l2, s.size ≤ 2147483647 := fun s hs => by
      rw [hl2] at hs
      rcases List.mem_append.1 hs with h | h
      · exact hA.big s h
      · simp at h
        rcases h with rfl | rfl
        · rw [ByteArray.size_append]; omega
        · omega
    have hsm := rep_small1 hA.hk s hz
    obtain ⟨rs, hrs⟩ : ∃ r : ByteArray, r = ⟨(rep (prs l) true s.data.toList).toArray⟩ := ⟨_, rfl⟩
    have HT : Hid (∀ W, Below w.heap.size w W → Calls Try.prog 26 #[.slice (some x) (2 * n) cap, .string s] W fun e w' => e = .returned (.string rs) ∧ Below W.heap.size W w') := Lib.hid (fun W hb => by
      rw [hrs]
      exact rpText_even n cap (some x) l s W (HA.out.later hb).hl (HA.out.later hb).hs (by omega) (HA.out.later hb).big (HA.out.later hb).hcap (by omega) (Nat.le_trans hsm (by omega)))
    have HRI : Hid (∀ W ao c, StrsAt W W.heap.size ao l2 → (ao = none → c = 0) → Calls Try.prog 21 #[.slice ao (2 * (n + 1)) c, .string s, .string rs] W fun e w' => e = .returned (.bool true) ∧ Below W.heap.size W w') := Lib.hid (fun W ao c hst hcp =>
      rpIs_yes (n + 1) c ao l2 s rs W hl2l hst (by omega) hbig2 hcp (by omega) (by rw [hrep]; exact Nat.le_trans hsm (by omega)) (by rw [hrs, hrep]))
    have HL := Lib.hid hl
    have HL2 := Lib.hid hl2
    clear hA hsol hprs hmem hrep hbig2 hsm hrs hold hl hc0 hmd
    go_enter Try.func9, Try.ntmps9
    go_wp2_with (first
      | (go_at_call 18; refine hfit.out.mono ?_; rintro e w' ⟨rfl, rfl⟩)
      | (go_at_call 19; refine (even_yes (some x) n cap _ (by omega)).mono ?_; rintro e w' ⟨rfl, rfl⟩)
      | (go_at_call 20; refine HY.out.mono ?_; rintro e w1 ⟨rfl, B1⟩; have hc1 := HC.out w1 B1)
      | (go_at_call 25; refine (HRR.out _).mono ?_; rintro e w2 ⟨rfl, hB2⟩; have B2 : Below w.heap.size w w2 := B1.trans (hB2.mono B1.size); have B2a := Lib.hid (B2.alloc B2.size (.cells #[] 9)))
      | (at_builtin
         have HO3' := HO3.out
         refine appG (by rfl) _ _ (by rfl) (w3.alloc (.cells #[.string (old ++ more), .string new] 9)) w.heap.size _ (2 * n) (l.map Value.string) (by rfl) (World.ownsRow.alloc HO3.out _) ⟨w3.heap.size, 0, none⟩ 2 2 [old ++ more, new] (by rfl) (by rfl) (World.news_of_block (B := w3.heap.size) Array.getElem?_push_size) (by omega) (Nat.le_trans HB3.out.size (by simp)) ?_
         intro v4 w4 hown4 hgr4
         have HB4 : Hid (Below w.heap.size w w4) := Lib.hid ((HB3.out.alloc HB3.out.size _).grown hgr4 (Nat.le_trans HB3.out.size (by simp)) (fun k hk => (World.ownsRow.lt HO3.out k hk).1))
         have HO4 : OwnS w4 w.heap.size v4 l2 := by
           unfold OwnS
           rw [HL2.out, List.length_append, List.map_append, HL.out]
           exact hown4
         obtain ⟨ao4, c4, rfl, hcp4, hst4⟩ := HO4.form
         have HST4 := Lib.hid hst4
         have HCP4 := Lib.hid hcp4
         rw [hl2l]
         clear hown4 hgr4 HO4 hst4 hcp4 HO3')
      | (at_builtin
         have B2a' := B2a.out
         refine appG (by rfl) _ _ (by rfl) (w2.alloc (.cells #[] 9)) w.heap.size _ 0 [] (by rfl) (World.ownsRow_made w2 #[] 0 B2.size (Nat.zero_le _) rfl) x (2 * n) cap l (by rfl) HL.out (HCE.out _ B2a.out) (by omega) B2a.out.size ?_
         intro v3 w3 hown3 hgr3
         rw [Nat.zero_add, List.nil_append] at hown3
         have HB3 : Hid (Below w.heap.size w w3) := Lib.hid (below_made B2 B2.size _ hgr3)
         obtain ⟨ao3, c3, rfl⟩ := own_form hown3
         have HO3 := Lib.hid hown3
         clear hown3 hgr3 B2a')
      | (go_at_call 26; refine (HT.out _ HB4.out).mono ?_; rintro e w5 ⟨rfl, hB5⟩; have HB5 := Lib.hid (HB4.out.trans (hB5.mono HB4.out.size)))
      | (go_at_call 21; refine (HRI.out _ ao4 c4 (HST4.out.later hB5) HCP4.out).mono ?_; rintro e w6 ⟨rfl, hB6⟩; have HB6 := Lib.hid (HB5.out.trans (hB6.mono HB5.out.size))))
    go_ret
    exact ⟨rfl, HB6.out⟩
  · have HY := Lib.hid (solid_no HSO.out hsol)
    clear hA hsol
    go_enter Try.func9, Try.ntmps9
    go_wp2_with (first
      | (go_at_call 18; refine hfit.out.mono ?_; rintro e w' ⟨rfl, rfl⟩)
      | (go_at_call 19; refine (even_yes a n cap _ (by omega)).mono ?_; rintro e w' ⟨rfl, rfl⟩)
      | (go_at_call 20; refine HY.out.mono ?_; rintro e w1 ⟨rfl, B1⟩))
    go_ret
    exact ⟨rfl, B1⟩
theorem walk_FnBehind (a0 : Option Addr) (len0 cap0 : Nat) (z0 : List ByteArray) (a1 : Int) (a2 a3 a4 : ByteArray) (w : World) (w0 : IsStrs w a0 len0 cap0 z0) (b0 : Short len0 z0) (w1 : (Lit.int .i64 a1).wf = true) (w2 : a2.size ≤ maxLen) (b2 : a2.size ≤ 1048576) (w3 : a3.size ≤ maxLen) (b3 : a3.size ≤ 1048576) (w4 : a4.size ≤ maxLen) (b4 : a4.size ≤ 1048576) :
    Calls Try.prog 9 #[.slice a0 len0 cap0, .int .i64 a1, .string a2, .string a3, .string a4] w fun e w' => e = .returned (.bool true) ∧ Below w.heap.size w w' := by
  have hc := short_cap w0
  obtain ⟨l, rfl, hs, hn, hk, _⟩ := strs_of_short w0 b0
  obtain ⟨n, hn2 | hn2⟩ := even_odd l.length
  · rw [hn2]
    exact law_behind a0 n cap0 l a1 a2 a3 a4 w ⟨hn2, hs, by omega, hk, hc⟩ b2 b3 b4
  · rw [hn2]
    have hnot : ∀ (x : Bool) (w : World), (Op.unary .not (.bool x)).run Try.prog w = .ok (.bool (!x)) w := fun _ _ => rfl
    have hfit := Lib.hid (hn2 ▸ fits_yes a0 cap0 w.heap.size l w hs (by omega) (fun s h => by have := hk s h; omega))
    clear hs hk
    go_enter Try.func9, Try.ntmps9
    go_wp2_with (first
      | (go_at_call 18; refine hfit.out.mono ?_; rintro e w' ⟨rfl, rfl⟩)
      | (go_at_call 19; refine (even_no a0 n cap0 _ (by omega)).mono ?_; rintro e w' ⟨rfl, rfl⟩))
    go_ret
    exact ⟨rfl, Below.refl _ _⟩
end Go.Proofs.Yteajdljmbjdbkaa
