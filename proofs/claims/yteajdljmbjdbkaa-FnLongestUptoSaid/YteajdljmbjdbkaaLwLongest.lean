/- The law FnLongest in its second form. -/
import Derived.Test.YteajdljmbjdbkaaLongest
namespace Go.Proofs.Yteajdljmbjdbkaa
open Go.RowKit Go.Lib
set_option linter.unusedVariables false

theorem getD_mem {l : List ByteArray} {i : Nat} (h : i < l.length) : l.getD i ⟨#[]⟩ ∈ l := by
  rw [show l.getD i ⟨#[]⟩ = l[i] by simp [List.getD, h]]
  exact List.getElem_mem _
theorem lenTo_mem {l : List ByteArray} {m : Nat} {x : ByteArray} : ∀ {j}, 2 * j ≤ l.length → x ∈ lenTo l m j → x ∈ l
  | 0, _, h => by simp [lenTo] at h
  | j + 1, hj, h => by
    rw [lenTo] at h
    rcases List.mem_append.1 h with h | h
    · exact lenTo_mem (by omega) h
    · split at h
      · rcases List.mem_cons.1 h with rfl | h
        · exact getD_mem (by omega)
        · rcases List.mem_cons.1 h with rfl | h
          · exact getD_mem (by omega)
          · cases h
      · cases h
theorem downTo_mem {l : List ByteArray} {n M : Nat} {x : ByteArray} (hl : l.length = 2 * n) : ∀ {t}, x ∈ downTo l n M t → x ∈ l
  | 0, h => by simp [downTo] at h
  | t + 1, h => by
    rw [downTo] at h
    rcases List.mem_append.1 h with h | h
    · exact downTo_mem hl h
    · exact lenTo_mem (by omega) h
set_option maxHeartbeats 3200000 in
set_option maxRecDepth 100000 in
theorem law_longest (a : Option Addr) (n cap : Nat) (l : List ByteArray) (s : ByteArray) (w : World) (hA : Args w a n cap l) (hz : s.size ≤ 1048576) :
    Calls Try.prog 15 #[.slice a (2 * n) cap, .string s] w fun e w' => e = .returned (.bool true) ∧ Below w.heap.size w w' := by
  have hnot : ∀ (x : Bool) (w : World), (Op.unary .not (.bool x)).run Try.prog w = .ok (.bool (!x)) w := fun _ _ => rfl
  have hfit := Lib.hid (hA.hl ▸ fits_yes a cap w.heap.size l w hA.hs (by have := hA.hn; have := hA.hl; omega) hA.big)
  have HA := Lib.hid hA
  have hn := hA.hn
  have HSO := Lib.hid (specSolid n cap a l w hA.hl hA.hs (by omega))
  by_cases hsol : SolidN l n
  · have HY := Lib.hid (solid_yes HSO.out hsol)
    have hl := hA.hl
    have hsl : SolidL (prs l) := hsol.prs hl
    have HKEY : Hid (∀ M, (∀ i, i < n → (l.getD (2 * i) ⟨#[]⟩).size ≤ M) → rep (prs (downTo l n M (M + 1))) true s.data.toList = longR (prs l) s.data.toList) := Lib.hid (fun M hM => by
      rw [downTo_all l n M hl]
      exact rep_byLen hsl M (fun q hq => by
        obtain ⟨i, hi, rfl⟩ := prs_mem l q hq
        have := hM i (by omega)
        have e : (l.getD (2 * i) ⟨#[]⟩).data.toList.length = (l.getD (2 * i) ⟨#[]⟩).size := Array.length_toList
        show (l.getD (2 * i) ⟨#[]⟩).data.toList.length ≤ M
        omega) _)
    have HLEN : Hid (∀ M, (∀ i, i < n → (l.getD (2 * i) ⟨#[]⟩).size ≤ M) → (longR (prs l) s.data.toList).length ≤ 4398046511104) := Lib.hid (fun M hM => by
      rw [← HKEY.out M hM]
      exact rep_small1 (fun x hx => hA.hk x (downTo_mem hl hx)) s hz)
    obtain ⟨rs, hrs⟩ : ∃ r : ByteArray, r = ⟨(longR (prs l) s.data.toList).toArray⟩ := ⟨_, rfl⟩
    have HLG : Hid (∀ W, Below w.heap.size w W → Calls Try.prog 34 #[.slice a (2 * n) cap, .string s] W fun e w' => e = .returned (.string rs) ∧ Below W.heap.size W w') := Lib.hid (fun W hb => by
      rw [hrs]
      exact specLongest n cap a l s W (HA.out.later hb) hz (HLEN.out 1048576 (fun i hi => HA.out.hk _ (getD_mem (by have := HA.out.hl; omega)))))
    have HBL := Lib.hid (fun (W : World) (hb : Below w.heap.size w W) => specByLength n cap a l W (HA.out.later hb))
    have HRI : Hid (∀ W ao c M k, (∀ i, i < n → (l.getD (2 * i) ⟨#[]⟩).size ≤ M) → (downTo l n M (M + 1)).length = 2 * k → StrsAt W W.heap.size ao (downTo l n M (M + 1)) → (ao = none → c = 0) → Calls Try.prog 21 #[.slice ao (2 * k) c, .string s, .string rs] W fun e w' => e = .returned (.bool true) ∧ Below W.heap.size W w') := Lib.hid (fun W ao c M k hM hk hst hcp => by
      have hle := part_le l n M M n hl (Nat.le_refl _) (Nat.le_refl _)
      rw [show downTo l n M M ++ lenTo l (M - M) n = downTo l n M (M + 1) from rfl, hk] at hle
      exact rpIs_yes k c ao (downTo l n M (M + 1)) s rs W hk hst (by omega) (fun x hx => by have := hA.hk x (downTo_mem hl hx); omega) hcp (by omega) (by rw [HKEY.out M hM]; exact Nat.le_trans (HLEN.out M hM) (by omega)) (by rw [hrs, HKEY.out M hM]))
    clear hA hsol hsl hrs hl
    go_enter Try.func15, Try.ntmps15
    go_wp2_with (first
      | (go_at_call 18; refine hfit.out.mono ?_; rintro e w' ⟨rfl, rfl⟩)
      | (go_at_call 19; refine (even_yes a n cap _ (by omega)).mono ?_; rintro e w' ⟨rfl, rfl⟩)
      | (go_at_call 20; refine HY.out.mono ?_; rintro e w1 ⟨rfl, B1⟩)
      | (go_at_call 33
         refine (HBL.out _ B1).mono ?_
         rintro e w2 ⟨v, M, rfl, hown, hM, hB2⟩
         obtain ⟨ao, c1, rfl, hcp, hst⟩ := hown.form
         obtain ⟨k, hk⟩ := downTo_even l n M (M + 1)
         have HM := Lib.hid hM
         have HST := Lib.hid hst
         have HCP := Lib.hid hcp
         have HKK := Lib.hid hk
         rw [hk]
         have B2 : Below w.heap.size w w2 := B1.trans (hB2.mono B1.size)
         clear hM hst hcp hk hown hB2)
      | (go_at_call 34; refine (HLG.out _ B2).mono ?_; rintro e w3 ⟨rfl, hB3⟩; have B3 := Lib.hid (B2.trans (hB3.mono B2.size)))
      | (go_at_call 21; refine (HRI.out _ ao c1 M k HM.out HKK.out (HST.out.later hB3) HCP.out).mono ?_; rintro e w4 ⟨rfl, hB4⟩; have B4 := Lib.hid (B3.out.trans (hB4.mono B3.out.size))))
    go_ret
    exact ⟨rfl, B4.out⟩
  · have HY := Lib.hid (solid_no HSO.out hsol)
    clear hA hsol
    go_enter Try.func15, Try.ntmps15
    go_wp2_with (first
      | (go_at_call 18; refine hfit.out.mono ?_; rintro e w' ⟨rfl, rfl⟩)
      | (go_at_call 19; refine (even_yes a n cap _ (by omega)).mono ?_; rintro e w' ⟨rfl, rfl⟩)
      | (go_at_call 20; refine HY.out.mono ?_; rintro e w1 ⟨rfl, B1⟩))
    go_ret
    exact ⟨rfl, B1⟩
theorem walk_FnLongest (a0 : Option Addr) (len0 cap0 : Nat) (z0 : List ByteArray) (a1 : ByteArray) (w : World) (w0 : IsStrs w a0 len0 cap0 z0) (b0 : Short len0 z0) (w1 : a1.size ≤ maxLen) (b1 : a1.size ≤ 1048576) :
    Calls Try.prog 15 #[.slice a0 len0 cap0, .string a1] w fun e w' => e = .returned (.bool true) ∧ Below w.heap.size w w' := by
  have hc := short_cap w0
  obtain ⟨l, rfl, hs, hn, hk, _⟩ := strs_of_short w0 b0
  obtain ⟨n, hn2 | hn2⟩ := even_odd l.length
  · rw [hn2]
    exact law_longest a0 n cap0 l a1 w ⟨hn2, hs, by omega, hk, hc⟩ b1
  · rw [hn2]
    have hnot : ∀ (x : Bool) (w : World), (Op.unary .not (.bool x)).run Try.prog w = .ok (.bool (!x)) w := fun _ _ => rfl
    have hfit := Lib.hid (hn2 ▸ fits_yes a0 cap0 w.heap.size l w hs (by omega) (fun s h => by have := hk s h; omega))
    clear hs hk
    go_enter Try.func15, Try.ntmps15
    go_wp2_with (first
      | (go_at_call 18; refine hfit.out.mono ?_; rintro e w' ⟨rfl, rfl⟩)
      | (go_at_call 19; refine (even_no a0 n cap0 _ (by omega)).mono ?_; rintro e w' ⟨rfl, rfl⟩))
    go_ret
    exact ⟨rfl, Below.refl _ _⟩
end Go.Proofs.Yteajdljmbjdbkaa
