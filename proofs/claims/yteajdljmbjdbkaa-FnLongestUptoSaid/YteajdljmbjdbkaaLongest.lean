/- spec.Longest. -/
import Derived.Test.YteajdljmbjdbkaaByLen
import Derived.Deep.RegionHeld3
import Derived.Deep.QuietTactic
import Derived.BigQuiet
namespace Go.Proofs.Yteajdljmbjdbkaa
open Go.RowKit Go.Lib
set_option linter.unusedVariables false

/-- the longest among the first pairs -/
def bestK (l : List ByteArray) (t : List UInt8) (k : Nat) : Option Pr := ((prs l).take k).foldl (bestStep t) none
theorem bestK_succ (l : List ByteArray) (t : List UInt8) (k : Nat) (h : 2 * k + 1 < l.length) : bestK l t (k + 1) = bestStep t (bestK l t k) ((l.getD (2 * k) ⟨#[]⟩).data.toList, (l.getD (2 * k + 1) ⟨#[]⟩).data.toList) := by
  rw [bestK, List.take_add_one, prs_get l k h, List.foldl_append]
  rfl
theorem bestK_all (l : List ByteArray) (t : List UInt8) (n : Nat) (hl : l.length = 2 * n) : bestK l t n = bestL (prs l) t := by
  rw [bestK, List.take_of_length_le (by rw [prs_length]; omega)]
  rfl
/-- what the loop's 'best' says -/
def BestV (l : List ByteArray) (t : List UInt8) (k : Nat) (v : Value) : Prop :=
  (v = .int .i64 (-1) ∧ bestK l t k = none) ∨ ∃ b, b < k ∧ v = .int .i64 (2 * (b : Int)) ∧ bestK l t k = some ((l.getD (2 * b) ⟨#[]⟩).data.toList, (l.getD (2 * b + 1) ⟨#[]⟩).data.toList)
theorem BestV.keep {l : List ByteArray} {t : List UInt8} {k : Nat} {v : Value} (h : BestV l t k v) (hk : 2 * k + 1 < l.length)
    (hno : (l.getD (2 * k) ⟨#[]⟩).size = 0 ∨ ¬ (l.getD (2 * k) ⟨#[]⟩).data.toList <+: t ∨ ∃ q, bestK l t k = some q ∧ (l.getD (2 * k) ⟨#[]⟩).size ≤ q.1.length) : BestV l t (k + 1) v := by
  have e : bestK l t (k + 1) = bestK l t k := by
    rw [bestK_succ l t k hk, bestStep, if_neg]
    rintro ⟨h1, h2, h3⟩
    rcases hno with h | h | ⟨q, hq, h⟩
    · exact h1 ((nil_iff _).2 h)
    · exact h (List.isPrefixOf_iff_prefix.1 h2)
    · have e2 : (l.getD (2 * k) ⟨#[]⟩).data.toList.length = (l.getD (2 * k) ⟨#[]⟩).size := Array.length_toList
      have h4 : q.1.length < (l.getD (2 * k) ⟨#[]⟩).data.toList.length := h3 q hq
      omega
  rcases h with ⟨h1, h2⟩ | ⟨b, hb, h1, h2⟩
  · exact .inl ⟨h1, by rw [e, h2]⟩
  · exact .inr ⟨b, by omega, h1, by rw [e, h2]⟩
theorem BestV.take {l : List ByteArray} {t : List UInt8} {k : Nat} (hk : 2 * k + 1 < l.length) (h0 : (l.getD (2 * k) ⟨#[]⟩).size ≠ 0) (hp : (l.getD (2 * k) ⟨#[]⟩).data.toList <+: t)
    (hlt : ∀ q, bestK l t k = some q → q.1.length < (l.getD (2 * k) ⟨#[]⟩).size) : BestV l t (k + 1) (.int .i64 (2 * (k : Int))) := by
  refine .inr ⟨k, by omega, rfl, ?_⟩
  rw [bestK_succ l t k hk, bestStep, if_pos]
  refine ⟨fun e => h0 ((nil_iff _).1 e), List.isPrefixOf_iff_prefix.2 hp, fun q hq => ?_⟩
  have := hlt q hq
  simpa using this
def LgRel (w : World) (l : List ByteArray) (s : ByteArray) (v5 v6 : Value) (wr : World) : Prop := ∃ (i : Nat) (acc : List UInt8), v6 = .int .i64 (i : Int) ∧ i ≤ s.size ∧ OwnB wr w.heap.size v5 acc ∧ Below w.heap.size w wr ∧ acc ++ longR (prs l) (s.data.toList.drop i) = longR (prs l) s.data.toList
def LgRel2 (w : World) (l : List ByteArray) (n : Nat) (t : List UInt8) (base : Nat) (v5 : Value) (acc : List UInt8) (v7 v8 : Value) (wr : World) : Prop := ∃ k : Nat, v8 = .int .i64 (2 * (k : Int)) ∧ k ≤ n ∧ BestV l t k v7 ∧ OwnB wr base v5 acc ∧ Below base w wr
set_option maxHeartbeats 3200000 in
set_option maxRecDepth 100000 in
theorem specLongest (n cap : Nat) (a : Option Addr) (l : List ByteArray) (s : ByteArray) (w : World) (hA : Args w a n cap l) (hz : s.size ≤ 1048576) (hout : (longR (prs l) s.data.toList).length ≤ 4398046511104) :
    Calls Try.prog 34 #[.slice a (2 * n) cap, .string s] w fun e w' => e = .returned (.string ⟨(longR (prs l) s.data.toList).toArray⟩) ∧ Below w.heap.size w w' := by
  have HA := Lib.hid hA
  have hn := hA.hn
  have HL := Lib.hid hA.hl
  have HO := Lib.hid hout
  clear hA hout
  go_enter Try.func34, Try.ntmps34
  go_wp2_with fail
  go_loopw [5, 6] (LgRel w l s) (fun _ i _ => s.size - (RowKit.intOf i).toNat)
  case atStart => exact ⟨0, [], rfl, Nat.zero_le _, OwnB.nil _ _, Below.refl _ _, rfl⟩
  case round =>
    obtain ⟨i, acc, rfl, hi, hown, B, hacc⟩ := hrel
    have HOWN := Lib.hid hown
    have HAC := Lib.hid hacc
    have hBs := B.size
    clear hown hacc
    by_cases hlt : i < s.size
    · have e1 : (i : Int) < s.size := by omega
      have HPF : Hid (∀ z : ByteArray, z.size ≤ 2147483647 → True) := Lib.hid (fun _ _ => trivial)
      obtain ⟨t, ht⟩ : ∃ t, t = s.data.toList.drop i := ⟨_, rfl⟩
      have HT := Lib.hid ht
      clear ht
      go_wp2_with fail
      go_loopw [7, 8] (LgRel2 w l n t w.heap.size u5 acc) (fun _ k _ => 2 * n - (RowKit.intOf k).toNat)
      case atStart => exact ⟨0, rfl, Nat.zero_le _, .inl ⟨rfl, rfl⟩, HOWN.out, B⟩
      case round =>
        obtain ⟨k, rfl, hk, hbv, hown, B2⟩ := hrel
        have HBV := Lib.hid hbv
        have HOWN2 := Lib.hid hown
        by_cases hlt2 : k < n
        · have h2k : 2 * k < l.length := by have := HL.out; omega
          have h2k1 : 2 * k + 1 < l.length := by have := HL.out; omega
          obtain ⟨x, rfl, hx, hc⟩ := HA.out.hs.below B2 (2 * k) h2k
          have g1 : 2 * (k : Int) < 2 * (n : Int) := by omega
          have g2 : 2 * (k : Int) + 1 < 2 * (n : Int) := by omega
          have g3 : (0 : Int) ≤ 2 * (k : Int) := by omega
          have hyz : l[2 * k].size ≤ 1048576 := HA.out.hk _ (List.getElem_mem _)
          have HGD : Hid (l.getD (2 * k) ⟨#[]⟩ = l[2 * k]) := Lib.hid (by simp [List.getD, h2k])
          have hcT : wr.cell? (x.add (2 * (k : Int)).toNat) = some (.string l[2 * k]) := by rw [show (2 * (k : Int)).toNat = 2 * k by omega]; exact hc
          have hpre : (occAt s.data.toList l[2 * k].data.toList i = true) ↔ l[2 * k].data.toList <+: t := by rw [HT.out]; exact occI _ _ _
          have HPRE := Lib.hid hpre
          clear hown hpre
          generalize l[2 * k] = y at *
          by_cases h0 : y.size = 0
          · have HN := Lib.hid (HBV.out.keep h2k1 (.inl (by rw [HGD.out]; exact h0)))
            obtain rfl : y = ⟨#[]⟩ := by
              apply ByteArray.ext
              exact Array.eq_empty_of_size_eq_zero h0
            clear h0 hbv
            go_wp2_with fail
            go_quiet (fail)
            go_wp2_with fail
            go_roundw
            case rel => exact ⟨k + 1, by go_num, by omega, HN.out, HOWN2.out, below_drewN B2 _⟩
            case measure => simp [RowKit.intOf]; omega
          · have he : y.toList.isEmpty = false := by rw [empty_of2]; exact decide_eq_false h0
            have HSA : Hid (∀ (r : Bool) (W : World), occAt s.data.toList y.data.toList i = r → Calls Try.prog 41 #[.string s, .int .i64 (i : Int), .string y] W fun e w' => e = .returned (.bool r) ∧ w' = W) := Lib.hid (fun r W hr => by
              have h := startsAt s y i (by omega) (by omega) (by omega) (by omega) W
              rw [Int.toNat_natCast, hr] at h
              exact h.mono (fun _ _ ⟨h1, h2⟩ => ⟨h1, h2.symm⟩))
            by_cases hp : y.data.toList <+: t
            · have HOC := Lib.hid (HPRE.out.2 hp)
              have hyp := hp
              rcases hbv with ⟨rfl, hb⟩ | ⟨b, hbk, rfl, hb⟩
              · have HN : Hid (BestV l t (k + 1) (.int .i64 (2 * (k : Int)))) := Lib.hid (BestV.take h2k1 (by rw [HGD.out]; exact h0) (by rw [HGD.out]; exact hp) (fun q hq => by rw [hb] at hq; cases hq))
                have HC := Lib.hid (fun W => HSA.out true W HOC.out)
                clear h0 hp hyp hb
                go_wp2_with fail
                go_quiet ((go_at_call 41; exact Calls.quiet_of_same (HC.out _)))
                go_wp2_with fail
                go_roundw
                case rel => exact ⟨k + 1, by go_num, by omega, HN.out, HOWN2.out, below_drewN B2 _⟩
                case measure => simp [RowKit.intOf]; omega
              · have h2b : 2 * b < l.length := by omega
                obtain ⟨x', hx', _, hcb⟩ := HA.out.hs.below B2 (2 * b) h2b
                obtain rfl := Option.some.inj hx'
                have hgb : l.getD (2 * b) ⟨#[]⟩ = l[2 * b] := by simp [List.getD, h2b]
                have hcB : wr.cell? (x.add (2 * (b : Int)).toNat) = some (.string l[2 * b]) := by rw [show (2 * (b : Int)).toNat = 2 * b by omega]; exact hcb
                have HC := Lib.hid (fun W => HSA.out true W HOC.out)
                have g5 : decide (2 * (b : Int) < 0) = false := decide_eq_false (by omega)
                have g6 : (0 : Int) ≤ 2 * (b : Int) := by omega
                have g7 : 2 * (b : Int) < 2 * (n : Int) := by omega
                have hzs : l[2 * b].size ≤ 1048576 := HA.out.hk _ (List.getElem_mem _)
                rw [hgb] at hb
                clear hx'
                generalize l[2 * b] = z at *
                have hzl : z.data.toList.length = z.size := Array.length_toList
                by_cases hlong : z.size < y.size
                · have HN : Hid (BestV l t (k + 1) (.int .i64 (2 * (k : Int)))) := Lib.hid (BestV.take h2k1 (by rw [HGD.out]; exact h0) (by rw [HGD.out]; exact hp) (fun q hq => by
                    rw [hb] at hq
                    obtain rfl := Option.some.inj hq
                    rw [HGD.out]
                    exact hzl ▸ hlong))
                  have g8 : (z.size : Int) < (y.size : Int) := by omega
                  clear h0 hp hyp hb hzl
                  go_wp2_with fail
                  go_quiet ((go_at_call 41; exact Calls.quiet_of_same (HC.out _)))
                  go_wp2_with fail
                  go_roundw
                  case rel => exact ⟨k + 1, by go_num, by omega, HN.out, HOWN2.out, below_drewN B2 _⟩
                  case measure => simp [RowKit.intOf]; omega
                · have HN := Lib.hid (HBV.out.keep h2k1 (.inr (.inr ⟨_, hb, by rw [HGD.out]; show y.size ≤ z.data.toList.length; omega⟩)))
                  have g8 : decide ((z.size : Int) < (y.size : Int)) = false := decide_eq_false (by omega)
                  clear h0 hp hyp hb hzl
                  go_wp2_with fail
                  go_quiet ((go_at_call 41; exact Calls.quiet_of_same (HC.out _)))
                  go_wp2_with fail
                  go_roundw
                  case rel => exact ⟨k + 1, by go_num, by omega, HN.out, HOWN2.out, below_drewN B2 _⟩
                  case measure => simp [RowKit.intOf]; omega
            · have HN := Lib.hid (HBV.out.keep h2k1 (.inr (.inl (by rw [HGD.out]; exact hp))))
              have HOC : Hid (occAt s.data.toList y.data.toList i = false) := Lib.hid (by
                cases ho : occAt s.data.toList y.data.toList i with
                | false => rfl
                | true => exact absurd (HPRE.out.1 ho) hp)
              have HC := Lib.hid (fun W => HSA.out false W HOC.out)
              clear h0 hbv hp
              go_wp2_with fail
              go_quiet ((go_at_call 41; exact Calls.quiet_of_same (HC.out _)))
              go_wp2_with fail
              go_roundw
              case rel => exact ⟨k + 1, by go_num, by omega, HN.out, HOWN2.out, below_drewN B2 _⟩
              case measure => simp [RowKit.intOf]; omega
        · obtain rfl : k = n := by omega
          have g2 : ¬ (2 * (k : Int) + 1 < 2 * (k : Int)) := by omega
          have hbs2 := B2.size
          have htot : acc.length + (longR (prs l) t).length ≤ 4398046511104 := by
            have h1 := congrArg List.length HAC.out
            rw [← HT.out, List.length_append] at h1
            have := HO.out
            omega
          clear hown hlt2
          rcases hbv with ⟨rfl, hb⟩ | ⟨b, hbk, rfl, hb⟩
          · rw [bestK_all l t k HL.out] at hb
            have hil : i < s.data.toList.length := by simp; exact hlt
            have hd : t = s[i] :: s.data.toList.drop (i + 1) := by
              rw [HT.out, List.drop_eq_getElem_cons hil]; rfl
            rw [hd] at hb htot
            have hrep := longR_cons hb
            rw [hrep] at htot
            simp only [List.length_cons] at htot
            have HREL : Hid (∀ v' w1, OwnB w1 w.heap.size v' (acc ++ [s[i]]) → Below w.heap.size w w1 → LgRel w l s v' (.int .i64 ((i : Int) + 1)) w1) := Lib.hid (fun v' w1 h1 h2 => ⟨i + 1, _, by go_num, by omega, h1, h2, by
              have := HAC.out
              rw [← HT.out, hd, hrep] at this
              rw [List.append_assoc, ← this]
              rfl⟩)
            clear hb hd hrep
            go_wp2_with (at_builtin; refine appB_one (by rfl) _ _ 44 Try.underlying44 (by rfl) wr w.heap.size _ acc s[i] _ (by rfl) (by rfl) HOWN2.out (by omega) hbs2 ?_; intro v1 w1 hown1 hgr; have HB1 := Lib.hid (below_appB1 B2 HOWN2.out (Nat.le_refl _) hbs2 hgr); have HO1 := Lib.hid hown1; clear hown1 hgr)
            go_roundw
            case rel => exact HREL.out _ _ HO1.out HB1.out
            case measure => simp [RowKit.intOf]; omega
          · have h2b : 2 * b < l.length := by have := HL.out; omega
            have h2b1 : 2 * b + 1 < l.length := by have := HL.out; omega
            obtain ⟨x, rfl, hx, hcb⟩ := HA.out.hs.below B2 (2 * b) h2b
            obtain ⟨x', hx', _, hcb'⟩ := HA.out.hs.below B2 (2 * b + 1) h2b1
            obtain rfl := Option.some.inj hx'
            rw [Addr.add_succ'] at hcb'
            have g5 : ¬ (2 * (b : Int) < 0) := by omega
            have g6 : (0 : Int) ≤ 2 * (b : Int) := by omega
            have g7 : 2 * (b : Int) < 2 * (k : Int) := by omega
            have g8 : 2 * (b : Int) + 1 < 2 * (k : Int) := by omega
            rw [bestK_all l t k HL.out, show l.getD (2 * b) ⟨#[]⟩ = l[2 * b] by simp [List.getD, h2b], show l.getD (2 * b + 1) ⟨#[]⟩ = l[2 * b + 1] by simp [List.getD, h2b1]] at hb
            have hys : l[2 * b].size ≤ 1048576 := HA.out.hk _ (List.getElem_mem _)
            have HC1 : Hid (∀ w1, Below w.heap.size w w1 → w1.cell? (x.add (2 * b)) = some (.string l[2 * b])) := Lib.hid (fun w1 hb1 => by
              obtain ⟨y', hy', _, hc⟩ := HA.out.hs.below hb1 (2 * b) h2b
              obtain rfl := Option.some.inj hy'
              exact hc)
            clear hx'
            generalize l[2 * b] = y at *
            generalize l[2 * b + 1] = z at *
            have hrep := longR_hit hb
            obtain ⟨hp1, hp2, _⟩ := bestL_some hb
            have hyl : y.data.toList.length = y.size := Array.length_toList
            have hzl : z.data.toList.length = z.size := Array.length_toList
            have htl : t.length = s.size - i := by rw [HT.out, List.length_drop]; simp
            simp only at hp1 hp2 hrep
            rw [hyl] at hp1 hp2 hrep
            rw [hrep, List.length_append, hzl] at htot
            have HREL : Hid (∀ v' w1, OwnB w1 w.heap.size v' (acc ++ z.data.toList) → Below w.heap.size w w1 → LgRel w l s v' (.int .i64 ((i : Int) + y.size)) w1) := Lib.hid (fun v' w1 h1 h2 => ⟨i + y.size, _, by go_num, by omega, h1, h2, by
              have := HAC.out
              rw [← HT.out, hrep, HT.out, List.drop_drop] at this
              rw [List.append_assoc]
              exact this⟩)
            have hsum : (i : Int) + y.size ≤ s.size := by omega
            clear hb hrep hyl hzl htl
            go_wp2_with (at_builtin; refine appB_str (by rfl) _ _ 44 Try.underlying44 (by rfl) wr w.heap.size _ acc z (by rfl) (by rfl) HOWN2.out (by omega) hbs2 ?_; intro v1 w1 hown1 hgr; have hB1 := below_appB B2 HOWN2.out (Nat.le_refl _) hbs2 hgr; have hc1 := HC1.out _ hB1; have HO1 := Lib.hid hown1; clear hown1 hgr)
            go_roundw
            case rel => exact HREL.out _ _ HO1.out hB1
            case measure => simp [RowKit.intOf]; omega
    · obtain rfl : i = s.size := by omega
      have e1 : ¬ ((s.size : Int) < s.size) := by omega
      have hnil : s.data.toList.drop s.size = [] := List.drop_eq_nil_of_le (by simp)
      have hfin : acc = longR (prs l) s.data.toList := by
        have h1 := HAC.out
        rw [hnil] at h1
        have h2 : bestL (prs l) [] = none := by
          cases hb : bestL (prs l) [] with
          | none => rfl
          | some p =>
            obtain ⟨h1, h2, _⟩ := bestL_some hb
            exact absurd h2 (by simp only [List.length_nil]; omega)
        rw [longR_nil h2, List.append_nil] at h1
        exact h1
      have hback := HOWN.out.back 44 Try.underlying44
      have HFIN := Lib.hid hfin
      clear hlt hnil hfin
      go_wp2_with fail
      go_ret
      rw [← HFIN.out]
      exact ⟨rfl, B⟩
end Go.Proofs.Yteajdljmbjdbkaa
