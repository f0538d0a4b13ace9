/- spec.ByLength. -/
import Derived.Test.YteajdljmbjdbkaaStepStr
import Derived.Test.YteajdljmbjdbkaaRepX
namespace Go.Proofs.Yteajdljmbjdbkaa
open Go.RowKit Go.Lib
set_option linter.unusedVariables false

/-- the first pairs whose old text has a length -/
def lenTo (l : List ByteArray) (m : Nat) : Nat → List ByteArray
  | 0 => []
  | j + 1 => lenTo l m j ++ (if (l.getD (2 * j) ⟨#[]⟩).size = m then [l.getD (2 * j) ⟨#[]⟩, l.getD (2 * j + 1) ⟨#[]⟩] else [])
theorem lenTo_even (l : List ByteArray) (m : Nat) : ∀ j, ∃ k, (lenTo l m j).length = 2 * k
  | 0 => ⟨0, rfl⟩
  | j + 1 => by
    obtain ⟨k, hk⟩ := lenTo_even l m j
    rw [lenTo, List.length_append, hk]
    split
    · exact ⟨k + 1, rfl⟩
    · exact ⟨k, rfl⟩
theorem lenTo_prs (l : List ByteArray) (m : Nat) : ∀ j, 2 * j ≤ l.length → prs (lenTo l m j) = ((prs l).take j).filter (fun p => p.1.length == m)
  | 0, _ => rfl
  | j + 1, h => by
    obtain ⟨k, hk⟩ := lenTo_even l m j
    rw [lenTo, prs_append _ _ k hk, lenTo_prs l m j (by omega), List.take_add_one, prs_get l j (by omega), List.filter_append]
    congr 1
    have e : (l.getD (2 * j) ⟨#[]⟩).data.toList.length = (l.getD (2 * j) ⟨#[]⟩).size := by simp
    by_cases hm : (l.getD (2 * j) ⟨#[]⟩).size = m
    · rw [if_pos hm]
      simp only [Option.toList_some, List.filter_cons, List.filter_nil]
      rw [e, hm, if_pos (by simp)]
      rfl
    · rw [if_neg hm]
      simp only [Option.toList_some, List.filter_cons, List.filter_nil]
      rw [e, if_neg (by simpa using hm)]
      rfl
/-- the pairs of the first lengths, from the longest on -/
def downTo (l : List ByteArray) (n M : Nat) : Nat → List ByteArray
  | 0 => []
  | t + 1 => downTo l n M t ++ lenTo l (M - t) n
theorem downTo_even (l : List ByteArray) (n M : Nat) : ∀ t, ∃ k, (downTo l n M t).length = 2 * k
  | 0 => ⟨0, rfl⟩
  | t + 1 => by
    obtain ⟨k, hk⟩ := downTo_even l n M t
    obtain ⟨k2, hk2⟩ := lenTo_even l (M - t) n
    exact ⟨k + k2, by rw [downTo, List.length_append, hk, hk2]; omega⟩
theorem downTo_prs (l : List ByteArray) (n M : Nat) (hl : l.length = 2 * n) : ∀ t, t ≤ M → prs (downTo l n M t) ++ byLen (prs l) (M - t) = byLen (prs l) M
  | 0, _ => rfl
  | t + 1, h => by
    obtain ⟨k, hk⟩ := downTo_even l n M t
    have ih := downTo_prs l n M hl t (by omega)
    rw [downTo, prs_append _ _ k hk, List.append_assoc, ← ih, lenTo_prs l _ n (by omega)]
    congr 1
    rw [List.take_of_length_le (by rw [prs_length]; omega)]
    obtain ⟨q, hq⟩ : ∃ q, M - t = q + 1 := ⟨M - t - 1, by omega⟩
    rw [hq, show M - (t + 1) = q by omega]
    rfl
theorem downTo_all (l : List ByteArray) (n M : Nat) (hl : l.length = 2 * n) : prs (downTo l n M (M + 1)) = byLen (prs l) M := by
  obtain ⟨k, hk⟩ := downTo_even l n M M
  rw [downTo, prs_append _ _ k hk, ← downTo_prs l n M hl M (Nat.le_refl M), Nat.sub_self, lenTo_prs l _ n (by omega)]
  congr 1
  rw [List.take_of_length_le (by rw [prs_length]; omega)]
  rfl
theorem byLen_count (l : Prs) : ∀ m, (byLen l m).length = (l.filter (fun p => decide (p.1.length ≤ m))).length
  | 0 => by
    rw [byLen]
    congr 1
    apply List.filter_congr
    intro p _
    by_cases h : p.1.length = 0
    · simp [h]
    · rw [beq_eq_false_iff_ne.2 h, decide_eq_false (by omega)]
  | m + 1 => by
    rw [byLen, List.length_append, byLen_count l m]
    induction l with
    | nil => rfl
    | cons p l ih =>
      simp only [List.filter_cons]
      by_cases h1 : p.1.length = m + 1
      · rw [if_pos (by simpa using h1), if_neg (by simp; omega), if_pos (by simp; omega)]
        simp only [List.length_cons]
        omega
      · by_cases h2 : p.1.length ≤ m
        · rw [if_neg (by simpa using h1), if_pos (by simpa using h2), if_pos (by simp; omega)]
          simp only [List.length_cons]
          omega
        · rw [if_neg (by simpa using h1), if_neg (by simpa using h2), if_neg (by simp; omega)]
          exact ih
theorem part_le (l : List ByteArray) (n M t j : Nat) (hl : l.length = 2 * n) (ht : t ≤ M) (hj : j ≤ n) : (downTo l n M t ++ lenTo l (M - t) j).length ≤ 2 * n := by
  obtain ⟨k, hk⟩ := downTo_even l n M t
  obtain ⟨k2, hk2⟩ := lenTo_even l (M - t) j
  have h1 := downTo_prs l n M hl t ht
  have h2 := congrArg List.length h1
  rw [List.length_append, prs_length, hk, byLen_count (prs l) M] at h2
  have h3 : ((prs l).filter (fun p => decide (p.1.length ≤ M))).length ≤ n := Nat.le_trans (List.length_filter_le _ _) (by rw [prs_length]; omega)
  have h4 := congrArg List.length (lenTo_prs l (M - t) j (by omega))
  rw [prs_length, hk2] at h4
  have h5 : (((prs l).take j).filter (fun p => p.1.length == M - t)).length ≤ (byLen (prs l) (M - t)).length := by
    have h6 : (((prs l).take j).filter (fun p => p.1.length == M - t)).length ≤ ((prs l).filter (fun p => p.1.length == M - t)).length := ((List.take_sublist j (prs l)).filter _).length_le
    refine Nat.le_trans h6 ?_
    cases M - t with
    | zero => exact Nat.le_refl _
    | succ q => rw [byLen, List.length_append]; omega
  rw [List.length_append, hk, hk2]
  omega
def BlRel1 (l : List ByteArray) (n : Nat) (v3 v12 : Value) : Prop := ∃ j m : Nat, v12 = .int .i64 (j : Int) ∧ v3 = .int .i64 (m : Int) ∧ j ≤ n ∧ m ≤ 1048576 ∧ (∀ i, i < j → (l.getD (2 * i) ⟨#[]⟩).size ≤ m)
def BlRel2 (w : World) (l : List ByteArray) (n M : Nat) (v6 v7 : Value) (wr : World) : Prop := ∃ t : Nat, v7 = .int .i64 ((M : Int) - t) ∧ t ≤ M + 1 ∧ OwnS wr w.heap.size v6 (downTo l n M t) ∧ Below w.heap.size w wr
def BlRel3 (w : World) (l : List ByteArray) (n M t : Nat) (v6 v8 : Value) (wr : World) : Prop := ∃ j : Nat, v8 = .int .i64 (2 * (j : Int)) ∧ j ≤ n ∧ OwnS wr w.heap.size v6 (downTo l n M t ++ lenTo l (M - t) j) ∧ Below w.heap.size w wr
def BlPost (w : World) (l : List ByteArray) (n : Nat) (e : Ending) (w' : World) : Prop := ∃ v M, e = .returned v ∧ OwnS w' w.heap.size v (downTo l n M (M + 1)) ∧ (∀ i, i < n → (l.getD (2 * i) ⟨#[]⟩).size ≤ M) ∧ Below w.heap.size w w'
set_option maxHeartbeats 3200000 in
set_option maxRecDepth 100000 in
theorem specByLength (n cap : Nat) (a : Option Addr) (l : List ByteArray) (w : World) (hA : Args w a n cap l) :
    Calls Try.prog 33 #[.slice a (2 * n) cap] w (BlPost w l n) := by
  have HA := Lib.hid hA
  have hn := hA.hn
  have HL := Lib.hid hA.hl
  have HOL := Lib.hid (specOlds n cap a l w hA.hl hA.hs (by omega))
  clear hA
  go_enter Try.func33, Try.ntmps33
  go_wp2_with (go_at_call 31; refine HOL.out.mono ?_; rintro e w1 ⟨v, rfl, hown, hB⟩; obtain ⟨ao, c1, rfl, _, hst⟩ := hown.form; have HST := Lib.hid hst; clear hst hown; rw [oldsTo_length])
  go_loop [3, 12] (BlRel1 l n) (fun _ i => n - (RowKit.intOf i).toNat)
  case atStart => exact ⟨0, 0, rfl, rfl, Nat.zero_le _, Nat.zero_le _, fun i h => absurd h (Nat.not_lt_zero _)⟩
  case round =>
    obtain ⟨j, m, rfl, rfl, hj, hm, hall⟩ := hrel
    have HALL := Lib.hid hall
    clear hall
    by_cases hlt : j < n
    · obtain ⟨x, rfl, _, hc⟩ := HST.out j (by rw [oldsTo_length]; exact hlt)
      rw [oldsTo_get l n j hlt] at hc
      have e1 : (j : Int) < n := by omega
      have hzs : (l.getD (2 * j) ⟨#[]⟩).size ≤ 1048576 := by
        have h2 : 2 * j < l.length := by have := HL.out; omega
        rw [show l.getD (2 * j) ⟨#[]⟩ = l[2 * j] by simp [List.getD, h2]]
        exact HA.out.hk _ (List.getElem_mem _)
      generalize hzg : l.getD (2 * j) ⟨#[]⟩ = z at *
      have HZ := Lib.hid hzg
      clear hzg
      by_cases hmz : m ≤ z.size
      · have e2 : (m : Int) ≤ (z.size : Int) := by omega
        have e3 : max (m : Int) (z.size : Int) = (z.size : Int) := by omega
        go_wp2_with fail
        go_round
        case rel => exact ⟨j + 1, z.size, by go_num, by first | rfl | simp [e3], by omega, hzs, fun i hi => by
          by_cases e : i = j
          · subst e; rw [HZ.out]; exact Nat.le_refl _
          · exact Nat.le_trans (HALL.out i (by omega)) hmz⟩
        case measure => simp [RowKit.intOf]; omega
      · have e2 : ¬ (m : Int) ≤ (z.size : Int) := by omega
        have e3 : max (m : Int) (z.size : Int) = (m : Int) := by omega
        have e4 : (z.size : Int) < (m : Int) := by omega
        go_wp2_with fail
        go_round
        case rel => exact ⟨j + 1, m, by go_num, by first | rfl | simp [e3], by omega, hm, fun i hi => by
          by_cases e : i = j
          · subst e; rw [HZ.out]; omega
          · exact HALL.out i (by omega)⟩
        case measure => simp [RowKit.intOf]; omega
    · obtain rfl : j = n := by omega
      have e1 : ¬ ((j : Int) < j) := by omega
      clear hlt
      go_wp2_with fail
      go_loopw [6, 7] (BlRel2 w l j m) (fun _ i _ => ((RowKit.intOf i) + 1).toNat)
      case atStart => exact ⟨0, by simp, Nat.zero_le _, OwnS.nil _ _, hB⟩
      case round =>
        obtain ⟨t, rfl, ht, hown, B⟩ := hrel
        have HOWN := Lib.hid hown
        by_cases hlt : t < m + 1
        · have f1 : (0 : Int) ≤ (m : Int) - (t : Int) := by omega
          have f0 : t ≤ m := by omega
          have F01 : Hid (decide (t ≤ m) = true) := Lib.hid (decide_eq_true f0)
          clear hown
          go_wp2_with fail
          try rw [F01.out]
          go_loopw [6, 8] (BlRel3 w l j m t) (fun _ i _ => 2 * j - (RowKit.intOf i).toNat)
          case atStart => exact ⟨0, rfl, Nat.zero_le _, by rw [lenTo, List.append_nil]; exact HOWN.out, B⟩
          case round =>
            obtain ⟨k, rfl, hk, hown, B3⟩ := hrel
            have HOWN3 := Lib.hid hown
            have hBs3 := B3.size
            by_cases hlt3 : k < j
            · have h2k : 2 * k < l.length := by have := HL.out; omega
              have h2k1 : 2 * k + 1 < l.length := by have := HL.out; omega
              obtain ⟨x, rfl, hx, hc⟩ := HA.out.hs.below B3 (2 * k) h2k
              obtain ⟨x', hx', _, hc'⟩ := HA.out.hs.below B3 (2 * k + 1) h2k1
              obtain rfl := Option.some.inj hx'
              have hcT : wr.cell? (x.add (2 * (k : Int)).toNat) = some (.string l[2 * k]) := by rw [show (2 * (k : Int)).toNat = 2 * k by omega]; exact hc
              have hcT' : wr.cell? (x.add (2 * (k : Int) + 1).toNat) = some (.string l[2 * k + 1]) := by rw [show (2 * (k : Int) + 1).toNat = 2 * k + 1 by omega]; exact hc'
              rw [Addr.add_succ'] at hc'
              have g1 : 2 * (k : Int) < 2 * (j : Int) := by omega
              have g2 : 2 * (k : Int) + 1 < 2 * (j : Int) := by omega
              have g3 : (0 : Int) ≤ 2 * (k : Int) := by omega
              have g4 : (0 : Int) ≤ 2 * (k : Int) + 1 := by omega
              have g5 : IntKind.i64.wrap (2 * (k : Int) + 1) = 2 * (k : Int) + 1 := by rw [IntKind.wrap_i64]; omega
              have hpl := part_le l j m t k HL.out (by omega) hk
              have hol2 : (downTo l j m t ++ lenTo l (m - t) k).length ≤ 1099511627776 := by omega
              have HG : Hid (lenTo l (m - t) (k + 1) = lenTo l (m - t) k ++ (if l[2 * k].size = m - t then [l[2 * k], l[2 * k + 1]] else [])) := Lib.hid (by
                rw [lenTo, show l.getD (2 * k) ⟨#[]⟩ = l[2 * k] by simp [List.getD, h2k], show l.getD (2 * k + 1) ⟨#[]⟩ = l[2 * k + 1] by simp [List.getD, h2k1]])
              clear hown hx'
              generalize l[2 * k] = y at *
              generalize l[2 * k + 1] = z at *
              by_cases hyz : y.size = m - t
              · have f2 : ((y.size : Int) == (m : Int) - (t : Int)) = true := beq_iff_eq.2 (by omega)
                rw [if_pos hyz] at HG
                clear hyz
                go_wp2_with fail
                go_region_law (
                  refine step_str2 rfl (.tmp 40) (.tmp 50) rfl wr.heap.size w.heap.size (downTo l j m t ++ lenTo l (m - t) k).length _ ((downTo l j m t ++ lenTo l (m - t) k).map Value.string) y z _ _ rfl rfl Array.getElem?_push_size (World.ownsRow.alloc HOWN3.out _) hol2 (Nat.le_trans hBs3 (by simp)) ?_
                  intro g2 c2 w2 hown2 hgr
                  have HB2 : Hid (Below w.heap.size w w2) := Lib.hid ((Below.drew (B3.alloc hBs3 (.cells #[.string y, .string z] 9))).grown hgr (Nat.le_trans hBs3 (by simp)) (fun k hk => (World.ownsRow.lt HOWN3.out k hk).1))
                  have HO2 := Lib.hid (OwnS.two (w2 := w2) hown2)
                  clear hown2 hgr)
                all_goals (
                  go_wp2_with fail
                  go_roundw
                  case rel => exact ⟨k + 1, by go_num, by omega, by rw [HG.out, ← List.append_assoc]; have HO3 := HO2.out; rw [List.length_append] at HO3; exact HO3, HB2.out⟩
                  case measure => simp [RowKit.intOf]; omega)
              · have f2 : ((y.size : Int) == (m : Int) - (t : Int)) = false := beq_eq_false_iff_ne.2 (by omega)
                rw [if_neg hyz, List.append_nil] at HG
                clear hyz
                go_wp2_with fail
                go_roundw
                case rel => exact ⟨k + 1, by go_num, by omega, by rw [HG.out]; exact HOWN3.out, B3⟩
                case measure => simp [RowKit.intOf]; omega
            · obtain rfl : k = j := by omega
              have g1 : ¬ (2 * (k : Int) + 1 < 2 * (k : Int)) := by omega
              clear hlt3 hown
              go_wp2_with fail
              go_roundw
              case rel => exact ⟨t + 1, by go_num, by omega, by rw [downTo]; exact HOWN3.out, B3⟩
              case measure => simp [RowKit.intOf]; omega
        · obtain rfl : t = m + 1 := by omega
          have f1 : ¬ (0 : Int) ≤ (m : Int) - ((m + 1 : Nat) : Int) := by omega
          clear hlt hown
          go_wp2_with fail
          go_ret
          exact ⟨_, m, rfl, HOWN.out, HALL.out, B⟩
end Go.Proofs.Yteajdljmbjdbkaa
