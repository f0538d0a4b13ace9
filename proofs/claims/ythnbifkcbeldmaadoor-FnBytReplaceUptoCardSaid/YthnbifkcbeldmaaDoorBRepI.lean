/- bytes.Replace over rows, whole; impl.BytReplaceN. -/
import Derived.Test.YthnbifkcbeldmaaDoorBRepE
import Derived.Test.YthnbifkcbeldmaaDoorRetR
import Derived.Test.YthnbifkcbeldmaaDoorReplLaw
namespace Go.Proofs.YthnbifkcbeldmaaDoor
open Go Go.RowKit Go.Lib
set_option linter.unusedVariables false
set_option maxHeartbeats 4000000 in
set_option maxRecDepth 100000 in
theorem gbReplaceNone (b1 o1 c1 b2 o2 c2 : Nat) (v3 : Value) (s old : ByteArray) (n : Int) (w : World) (r1 : Row w b1 o1 s) (r2 : Row w b2 o2 old) (hcap : s.size ≤ c1)
    (hs : s.size ≤ 1048576) (hz : old.size ≤ 1048576) (hno : n = 0 ∨ 1 ≤ old.size ∧ Lib.countB s old = 0) :
    Calls Tryd.prog 57 #[.slice (some ⟨b1, o1, none⟩) s.size c1, .slice (some ⟨b2, o2, none⟩) old.size c2, v3, .int .i64 n] w (RetRow w s) := by
  obtain ⟨i0, hi, hz0, hz1, hz2⟩ := info_parts info8
  have R1 := Lib.hid r1
  obtain ⟨xs, hxs⟩ : ∃ xs : List Value, xs = s.data.toList.map (fun c => Value.int .u8 (c.toNat : Int)) := ⟨_, rfl⟩
  have hx := Lib.hid hxs
  have hlen : Hid (xs.length = s.size) := by show _ = _; rw [hxs]; simp
  clear hxs
  have FIN : ∀ (W : World) (v' : Value) (w1 : World), Below w.heap.size w W → W.grownBy w1 (Value.slice none 0 0).ownBlock → w1.ownsRow w.heap.size 5 1 v' s.size xs → RetRow w s (.returned v') w1 := fun W v' w1 hB hg hown => by
    have hbel : Below w.heap.size w w1 := hB.grown hg hB.size (by intro k hk; simp [Value.ownBlock] at hk)
    obtain ⟨h1, ⟨h2, h3⟩ | ⟨g, cp, cur, rfl, hg2, hgb, hn1, hn2, hcs, htk⟩⟩ := hown
    · rw [h2]; exact retRow_nil h3 hbel
    · refine retRow_of rfl rfl hn1 hn2 (fun i hi => ?_) hbel
      rw [Nat.zero_add]
      have e1 : cur.toList[i]? = some (.int .u8 (s[i].toNat : Int)) := by
        have e2 : (cur.toList.take (s.size * 1))[i]? = xs[i]? := by rw [htk]
        rw [List.getElem?_take_of_lt (by omega)] at e2
        rw [e2, hx.out, List.getElem?_map, data_getElem? s i hi]
        rfl
      simp only [World.cell?, hgb]
      simpa using e1
  have CEL : ∀ W : World, Below w.heap.size w W → ∀ (j : Nat) (u : Value), xs[j]? = some u → W.cell? ((⟨b1, o1, none⟩ : Addr).add j) = some u := fun W hB j u hj => by
    have hjn : j < s.size := by
      have := (List.getElem?_eq_some_iff.1 hj).1
      rwa [hlen.out] at this
    have := (R1.out.later hB) j hjn
    rw [hx.out] at hj
    rw [show (⟨b1, o1, none⟩ : Addr).add j = ⟨b1, o1 + j, none⟩ by simp [Addr.add], this]
    rw [List.getElem?_map, data_getElem? s j hjn] at hj
    simpa using hj
  have ONE : ∀ u ∈ xs, u.oneCell' = true := fun u hu => by rw [hx.out] at hu; obtain ⟨x, _, rfl⟩ := List.mem_map.1 hu; rfl
  have HF := Lib.hid FIN
  have HC := Lib.hid CEL
  have HO := Lib.hid ONE
  clear FIN CEL ONE
  rcases hno with rfl | ⟨h1, hc0⟩
  · clear r1 r2
    go_enter Tryd.func57, Tryd.ntmps57
    go_wp2_with (at_builtin; refine wpList_append_own _ rfl _ _ 24 rfl w.heap.size 5 i0 (.int .u8 0) 1 1 Tryd.underlying24 hi hz0 hz1 hz2 rfl (by decide) (.slice none 0 0) 0 [] rfl (World.ownsRow_nil _ _ _ _) ⟨b1, o1, none⟩ s.size c1 xs rfl (by rw [hlen.out, Nat.mul_one]) (HC.out _ (Below.refl _ _)) HO.out (by unfold maxLen; omega) (by omega) (Nat.le_refl _) ?_; intro v1 w1 hown hgr hnil; have HQ := Lib.hid (HF.out _ v1 w1 (Below.refl _ _) hgr (by simpa using hown)); clear hown hgr hnil)
    go_ret
    exact HQ.out
  · have hnz : n = 0 ∨ (n == 0) = false := by
      by_cases h : n = 0
      · exact .inl h
      · exact .inr (beq_eq_false_iff_ne.2 h)
    have hC : Calls Tryd.prog 92 #[.slice (some ⟨b1, o1, none⟩) s.size c1, .slice (some ⟨b2, o2, none⟩) old.size c2] w fun e w' => e = .returned (.int .i64 ((0 : Nat) : Int)) ∧ Below w.heap.size w w' := by
      have h := gbCount b1 o1 c1 b2 o2 c2 s old (by omega) (by omega) w r1 r2 hcap
      rw [cntB_more s old h1, hc0] at h
      exact h
    clear r1 r2 hc0
    rcases hnz with rfl | hnz
    · go_enter Tryd.func57, Tryd.ntmps57
      go_wp2_with (at_builtin; refine wpList_append_own _ rfl _ _ 24 rfl w.heap.size 5 i0 (.int .u8 0) 1 1 Tryd.underlying24 hi hz0 hz1 hz2 rfl (by decide) (.slice none 0 0) 0 [] rfl (World.ownsRow_nil _ _ _ _) ⟨b1, o1, none⟩ s.size c1 xs rfl (by rw [hlen.out, Nat.mul_one]) (HC.out _ (Below.refl _ _)) HO.out (by unfold maxLen; omega) (by omega) (Nat.le_refl _) ?_; intro v1 w1 hown hgr hnil; have HQ := Lib.hid (HF.out _ v1 w1 (Below.refl _ _) hgr (by simpa using hown)); clear hown hgr hnil)
      go_ret
      exact HQ.out
    · go_enter Tryd.func57, Tryd.ntmps57
      go_wp2_with (first
        | (go_at_call 92; refine hC.mono ?_; rintro e wc ⟨rfl, hBc⟩)
        | (at_builtin; refine wpList_append_own _ rfl _ _ 24 rfl w.heap.size 5 i0 (.int .u8 0) 1 1 Tryd.underlying24 hi hz0 hz1 hz2 rfl (by decide) (.slice none 0 0) 0 [] rfl (World.ownsRow_nil _ _ _ _) ⟨b1, o1, none⟩ s.size c1 xs rfl (by rw [hlen.out, Nat.mul_one]) (HC.out _ hBc) HO.out (by unfold maxLen; omega) (by omega) hBc.size ?_; intro v1 w1 hown hgr hnil; have HQ := Lib.hid (HF.out _ v1 w1 hBc hgr (by simpa using hown)); clear hown hgr hnil))
      go_ret
      exact HQ.out
theorem gbReplace (b1 o1 c1 b2 o2 c2 b3 o3 c3 : Nat) (s old new : ByteArray) (n : Int) (w : World) (r1 : Row w b1 o1 s) (r2 : Row w b2 o2 old) (r3 : Row w b3 o3 new) (hcap : s.size ≤ c1)
    (hs : s.size ≤ 1048576) (hz : old.size ≤ 1048576) (hnew : new.size ≤ 1048576) (hT : Utf8Tabs 2 3 w) :
    Calls Tryd.prog 57 #[.slice (some ⟨b1, o1, none⟩) s.size c1, .slice (some ⟨b2, o2, none⟩) old.size c2, .slice (some ⟨b3, o3, none⟩) new.size c3, .int .i64 n] w (RetRow w (seReplB s old new n)) := by
  by_cases hn0 : n = 0
  · rw [← seReplB_of (by rw [hn0, seRepl_zero] : s.data.toList = seRepl s old new n)]
    exact gbReplaceNone b1 o1 c1 b2 o2 c2 _ s old n w r1 r2 hcap hs hz (.inl hn0)
  by_cases h1 : 1 ≤ old.size
  · by_cases hc : countB s old = 0
    · rw [← seReplB_of (seRepl_no s old new n h1 hc).symm]
      exact gbReplaceNone b1 o1 c1 b2 o2 c2 _ s old n w r1 r2 hcap hs hz (.inr ⟨h1, hc⟩)
    · unfold seReplB
      rw [seRepl_text s old new n h1]
      exact gbReplaceSome b1 o1 c1 b2 o2 c2 b3 o3 c3 s old new n w r1 r2 r3 hcap hs hz hnew h1 hn0 hc ((count_bound s old new hs hnew).resolve_right (by omega))
  · have h0 : old.size = 0 := by omega
    have e : seRepl s old new n = rj s.data.toList new.data.toList 0 ((starts s ++ [s.size]).take (howMany (runeCount s + 1) n)) 0 := by
      unfold seRepl places
      rw [if_pos h0, h0, cut_many, List.length_append, List.length_singleton, starts_length]
    unfold seReplB
    rw [e]
    exact gbReplaceEmpty b1 o1 c1 b2 o2 c2 b3 o3 c3 s old new n w r1 r2 r3 hcap hs hnew h0 hn0 (repl_bound s new hs hnew) hT
set_option maxHeartbeats 1600000 in
theorem implBytReplace (g1 o1 c1 g2 o2 c2 g3 o3 c3 : Nat) (s old new : ByteArray) (n : Int) (w : World) (r1 : Row w g1 o1 s) (r2 : Row w g2 o2 old) (r3 : Row w g3 o3 new)
    (hs : s.size ≤ 1048576) (hz : old.size ≤ 1048576) (hnew : new.size ≤ 1048576) (hT : Utf8Tabs 2 3 w) :
    Calls Tryd.prog 29 #[.slice (some ⟨g1, o1, none⟩) s.size c1, .slice (some ⟨g2, o2, none⟩) old.size c2, .slice (some ⟨g3, o3, none⟩) new.size c3, .int .i64 n] w (RetRow w (seReplB s old new n)) := by
  have hl : (seReplB s old new n).size ≤ 70368744177664 := by show (seRepl s old new n).toArray.size ≤ _; rw [List.size_toArray]; exact Nat.le_trans (seRepl_len s old new n) (repl_bound s new hs hnew)
  have R2 := Lib.hid r2
  have R3 := Lib.hid r3
  have HT := Lib.hid hT
  have H := Lib.hid (fun (p1 cap1 p2 cap2 p3 cap3 : Nat) (W : World) q1 q2 q3 h hB => gbReplace p1 0 cap1 p2 0 cap2 p3 0 cap3 s old new n W q1 q2 q3 h hs hz hnew (Utf8Tabs_below HT.out hB))
  generalize seReplB s old new n = R at *
  clear hT
  go_enter Tryd.func29, Tryd.ntmps29
  go_wp2_with fail
  refine (clone g1 o1 c1 s _ (by omega) r1).mono ?_
  rintro e w1 ⟨p1, cap1, rfl, p2, p3, p4, p5, k1, q1, bel1⟩
  go_wp2_with fail
  refine (clone g2 o2 c2 old _ (by omega) (R2.out.later bel1)).mono ?_
  rintro e w2 ⟨q2, cap2, rfl, q3, q4, q5, q6, k2, q7, bel2⟩
  go_wp2_with fail
  refine (clone g3 o3 c3 new _ (by omega) (R3.out.later (chain bel1 bel2))).mono ?_
  rintro e w3 ⟨u2, cap3, rfl, u3, u4, u5, u6, k3, u7, bel3⟩
  have B3 := chain (chain bel1 bel2) bel3
  have Q1 := Lib.hid ((q1.later bel2).later bel3)
  have Q2 := Lib.hid (q7.later bel3)
  have Q3 := Lib.hid u7
  clear q1 q7 u7 k1 k2 k3
  go_wp2_with (go_at_call 57; refine (H.out _ _ _ _ _ _ _ Q1.out Q2.out Q3.out p2 B3).mono ?_; rintro e w4 ⟨p, cap, rfl, z1, z2, z3, z4, z5⟩; have Z := Lib.hid (And.intro z3 z4); clear z3 z4)
  refine (cloneRet p cap R _ (by omega) Z.out).mono ?_
  rintro e w5 ⟨p', cap', rfl, y1, y2, y3, y4, y5⟩
  have Y := Lib.hid (And.intro y3 y4)
  clear y3 y4
  go_wp2_with fail
  go_ret
  exact ⟨p', cap', rfl, y1, y2, Y.out.1, Y.out.2, chain (chain B3 z5) y5⟩
end Go.Proofs.YthnbifkcbeldmaaDoor
