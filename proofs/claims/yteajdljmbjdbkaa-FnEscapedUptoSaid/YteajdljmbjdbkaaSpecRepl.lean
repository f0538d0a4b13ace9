/- The reference's firstAt and Replaced. -/
import Derived.Test.YteajdljmbjdbkaaRepL
import Derived.Test.YteajdljmbjdbkaaLawLookup
import Derived.Test.YteajdljmbjdbkaaOwnB
import Derived.Deep.LoopGhost
namespace Go.Proofs.Yteajdljmbjdbkaa
open Go.RowKit Go.Lib
set_option linter.unusedVariables false

theorem occI (s k : List UInt8) (i : Nat) : occAt s k i = true ↔ k <+: s.drop i := by
  unfold occAt
  rw [List.isPrefixOf_iff_prefix]
theorem occI_no (s k : List UInt8) (i : Nat) (h : ¬ k <+: s.drop i) : occAt s k i = false := by
  cases ho : occAt s k i with
  | false => rfl
  | true => exact absurd ((occI s k i).1 ho) h

set_option maxHeartbeats 1600000 in
theorem firstAt_yes (a : Option Addr) (n cap : Nat) (l : List ByteArray) (s : ByteArray) (i : Nat) (em : Bool) (B : Nat) (w : World) (hl : l.length = 2 * n) (hs : StrsAt w B a l) (hn : 2 * n ≤ 2147483648) (hk : ∀ s ∈ l, s.size ≤ 2147483647) (hz : s.size < 4611686018427387904) (hi : i ≤ s.size)
    (i0 : Nat) (hf : FirstAt l n (s.data.toList.drop i) (!em) i0) :
    Calls Try.prog 39 #[.slice a (2 * n) cap, .string s, .int .i64 (i : Int), .bool em] w fun e w' => e = .returned (.int .i64 (2 * (i0 : Int))) ∧ w = w' := by
  have HL := Lib.hid hl
  have HS := Lib.hid hs
  have HK := Lib.hid hk
  obtain ⟨f1, f2, f3, f4⟩ := hf
  have F2 := Lib.hid f2
  have F3 := Lib.hid f3
  have F4 := Lib.hid f4
  clear hl hs hk f2 f3 f4
  go_enter Try.func39, Try.ntmps39
  go_wp2_with fail
  go_loop [9] (fun v => ∃ j : Nat, j ≤ i0 ∧ v = .int .i64 (2 * (j : Int))) (fun v => 2 * n - (RowKit.intOf v).toNat)
  case atStart => exact ⟨0, Nat.zero_le _, rfl⟩
  case round =>
    obtain ⟨j, hj, rfl⟩ := hrel
    have hjl : 2 * j < l.length := by have := HL.out; omega
    obtain ⟨x, rfl, hx, hc⟩ := HS.out (2 * j) hjl
    have e1 : 2 * (j : Int) < 2 * (n : Int) := by omega
    have e2 : 2 * (j : Int) + 1 < 2 * (n : Int) := by omega
    have hks : l[2 * j].size ≤ 2147483647 := HK.out _ (List.getElem_mem _)
    by_cases e : j = i0
    · subst e
      rw [show l.getD (2 * j) ⟨#[]⟩ = l[2 * j] by simp [List.getD, hjl]] at F2 F3
      have HO := Lib.hid ((occI _ _ _).2 F2.out)
      have hg : em = true ∨ l[2 * j].toList.isEmpty = false := by
        cases em
        · right; rw [empty_of2]; exact decide_eq_false (fun h => F3.out ⟨rfl, (nil_iff _).2 h⟩)
        · exact .inl rfl
      generalize l[2 * j] = key at *
      clear F3 F2 F4
      rcases hg with rfl | he
      · go_wp2_with (go_at_call 41; refine (startsAt s key i (by omega) (by omega) (by omega) (by omega) _).mono ?_; rintro e w' ⟨rfl, rfl⟩; rw [Int.toNat_natCast, HO.out])
        all_goals (go_ret; exact ⟨rfl, rfl⟩)
      · cases em <;>
        go_wp2_with (go_at_call 41; refine (startsAt s key i (by omega) (by omega) (by omega) (by omega) _).mono ?_; rintro e w' ⟨rfl, rfl⟩; rw [Int.toNat_natCast, HO.out])
        all_goals (go_ret; exact ⟨rfl, rfl⟩)
    · have hno := F4.out j (by omega)
      rw [show l.getD (2 * j) ⟨#[]⟩ = l[2 * j] by simp [List.getD, hjl], nil_iff] at hno
      generalize l[2 * j] = key2 at hc hks hno
      have hways : occAt s.data.toList key2.data.toList i = false ∨ (occAt s.data.toList key2.data.toList i = true ∧ em = false ∧ key2.toList.isEmpty = true) := by
        by_cases hp : key2.data.toList <+: s.data.toList.drop i
        · right
          refine ⟨(occI _ _ _).2 hp, ?_⟩
          cases hi : em with
          | true => exact absurd ⟨hp, fun h => by rw [hi] at h; cases h.1⟩ hno
          | false =>
            refine ⟨rfl, ?_⟩
            rw [empty_of2]
            by_cases hz0 : key2.size = 0
            · exact decide_eq_true hz0
            · exact absurd ⟨hp, fun h => hz0 h.2⟩ hno
        · exact .inl (occI_no _ _ _ hp)
      clear F3 F2 F4 hno
      rcases hways with ho | ⟨ho, rfl, he⟩
      · have HO := Lib.hid ho
        clear ho
        cases em <;>
        go_wp2_with (go_at_call 41; refine (startsAt s key2 i (by omega) (by omega) (by omega) (by omega) _).mono ?_; rintro e w' ⟨rfl, rfl⟩; rw [Int.toNat_natCast, HO.out])
        all_goals
          go_round
          case rel => exact ⟨j + 1, by omega, by go_num⟩
          case measure => simp [RowKit.intOf]; omega
      · have HO := Lib.hid ho
        clear ho
        go_wp2_with (go_at_call 41; refine (startsAt s key2 i (by omega) (by omega) (by omega) (by omega) _).mono ?_; rintro e w' ⟨rfl, rfl⟩; rw [Int.toNat_natCast, HO.out])
        go_round
        case rel => exact ⟨j + 1, by omega, by go_num⟩
        case measure => simp [RowKit.intOf]; omega
set_option maxHeartbeats 1600000 in
theorem firstAt_no (a : Option Addr) (n cap : Nat) (l : List ByteArray) (s : ByteArray) (i : Nat) (em : Bool) (B : Nat) (w : World) (hl : l.length = 2 * n) (hs : StrsAt w B a l) (hn : 2 * n ≤ 2147483648) (hk : ∀ s ∈ l, s.size ≤ 2147483647) (hz : s.size < 4611686018427387904) (hi : i ≤ s.size)
    (hf : NoneAt l n (s.data.toList.drop i) (!em)) :
    Calls Try.prog 39 #[.slice a (2 * n) cap, .string s, .int .i64 (i : Int), .bool em] w fun e w' => e = .returned (.int .i64 (-1)) ∧ w = w' := by
  have HL := Lib.hid hl
  have HS := Lib.hid hs
  have HK := Lib.hid hk
  have F4 := Lib.hid hf
  clear hl hs hk hf
  go_enter Try.func39, Try.ntmps39
  go_wp2_with fail
  go_loop [9] (fun v => ∃ j : Nat, j ≤ n ∧ v = .int .i64 (2 * (j : Int))) (fun v => 2 * n - (RowKit.intOf v).toNat)
  case atStart => exact ⟨0, Nat.zero_le _, rfl⟩
  case round =>
    obtain ⟨j, hj, rfl⟩ := hrel
    by_cases hlt : j < n
    · have hjl : 2 * j < l.length := by have := HL.out; omega
      obtain ⟨x, rfl, hx, hc⟩ := HS.out (2 * j) hjl
      have e1 : 2 * (j : Int) < 2 * (n : Int) := by omega
      have e2 : 2 * (j : Int) + 1 < 2 * (n : Int) := by omega
      have hks : l[2 * j].size ≤ 2147483647 := HK.out _ (List.getElem_mem _)
      have hno := F4.out j hlt
      rw [show l.getD (2 * j) ⟨#[]⟩ = l[2 * j] by simp [List.getD, hjl], nil_iff] at hno
      generalize l[2 * j] = key2 at hc hks hno
      have hways : occAt s.data.toList key2.data.toList i = false ∨ (occAt s.data.toList key2.data.toList i = true ∧ em = false ∧ key2.toList.isEmpty = true) := by
        by_cases hp : key2.data.toList <+: s.data.toList.drop i
        · right
          refine ⟨(occI _ _ _).2 hp, ?_⟩
          cases hi : em with
          | true => exact absurd ⟨hp, fun h => by rw [hi] at h; cases h.1⟩ hno
          | false =>
            refine ⟨rfl, ?_⟩
            rw [empty_of2]
            by_cases hz0 : key2.size = 0
            · exact decide_eq_true hz0
            · exact absurd ⟨hp, fun h => hz0 h.2⟩ hno
        · exact .inl (occI_no _ _ _ hp)
      clear F4 hno
      rcases hways with ho | ⟨ho, rfl, he⟩
      · have HO := Lib.hid ho
        clear ho
        cases em <;>
        go_wp2_with (go_at_call 41; refine (startsAt s key2 i (by omega) (by omega) (by omega) (by omega) _).mono ?_; rintro e w' ⟨rfl, rfl⟩; rw [Int.toNat_natCast, HO.out])
        all_goals
          go_round
          case rel => exact ⟨j + 1, by omega, by go_num⟩
          case measure => simp [RowKit.intOf]; omega
      · have HO := Lib.hid ho
        clear ho
        go_wp2_with (go_at_call 41; refine (startsAt s key2 i (by omega) (by omega) (by omega) (by omega) _).mono ?_; rintro e w' ⟨rfl, rfl⟩; rw [Int.toNat_natCast, HO.out])
        go_round
        case rel => exact ⟨j + 1, by omega, by go_num⟩
        case measure => simp [RowKit.intOf]; omega
    · obtain rfl : j = n := by omega
      have e1 : ¬ (2 * (j : Int) + 1 < 2 * (j : Int)) := by omega
      clear hlt
      go_wp2_with fail
      go_ret
      exact ⟨rfl, rfl⟩

def SrRel (w : World) (l : List ByteArray) (s : ByteArray) (g : Nat) (v5 v6 v7 : Value) (wr : World) : Prop :=
  ∃ (i : Nat) (em : Bool) (acc : List UInt8), v7 = .int .i64 i ∧ v6 = .bool em ∧ i ≤ s.size ∧ OwnB wr w.heap.size v5 acc ∧ Below w.heap.size w wr ∧
    acc ++ rep (prs l) em (s.data.toList.drop i) = rep (prs l) true s.data.toList ∧ 2 * (s.size - i) + (if em then 1 else 0) ≤ g
set_option maxHeartbeats 3200000 in
set_option maxRecDepth 100000 in
theorem specReplaced (a : Option Addr) (n cap : Nat) (l : List ByteArray) (s : ByteArray) (w : World) (hl : l.length = 2 * n) (hs : StrsAt w w.heap.size a l) (hn : 2 * n ≤ 2147483648) (hk : ∀ s ∈ l, s.size ≤ 2147483647) (hz : s.size < 2147483648)
    (hout : (rep (prs l) true s.data.toList).length ≤ 140737488355328) :
    Calls Try.prog 29 #[.slice a (2 * n) cap, .string s] w fun e w' => e = .returned (.string ⟨(rep (prs l) true s.data.toList).toArray⟩) ∧ Below w.heap.size w w' := by
  have HL := Lib.hid hl
  have HS := Lib.hid hs
  have HK := Lib.hid hk
  have HO := Lib.hid hout
  have hsl : s.data.toList.length = s.size := by simp
  have HSL := Lib.hid hsl
  clear hl hs hk hout hsl
  go_enter Try.func29, Try.ntmps29
  go_wp2_with fail
  go_loopg [5, 6, 7] (2 * s.size + 1) (SrRel w l s)
  case atStart => exact ⟨0, true, [], rfl, rfl, Nat.zero_le _, OwnB.nil _ _, Below.refl _ _, by simp, by simp⟩
  case round =>
    obtain ⟨i, em, acc, rfl, rfl, hi, hown, B, hacc, hg⟩ := hrel
    have HOWN := Lib.hid hown
    have HA := Lib.hid hacc
    have HG := Lib.hid hg
    have hBs := B.size
    have hlen : acc.length + (rep (prs l) em (s.data.toList.drop i)).length ≤ 140737488355328 := by have := HO.out; rw [← hacc, List.length_append] at this; exact this
    clear hown hacc hg
    rcases first_or_none l n (s.data.toList.drop i) (!em) with ⟨i0, hf⟩ | hf
    · have hh := hit_first HL.out hf
      have hrep := rep_hit hh
      have HF := Lib.hid hf
      have hfp := hf.1
      have hpre := hf.2.1.length_le
      have hne := hf.2.2.1
      have hjl : 2 * i0 < l.length := by have := HL.out; omega
      have hjl2 : 2 * i0 + 1 < l.length := by have := HL.out; omega
      obtain ⟨x, rfl, hx, hc⟩ := HS.out.below B (2 * i0) hjl
      obtain ⟨x', hx', _, hc'⟩ := HS.out.below B (2 * i0 + 1) hjl2
      obtain rfl := Option.some.inj hx'
      rw [Addr.add_succ'] at hc'
      have e1 : 2 * (i0 : Int) < 2 * (n : Int) := by omega
      have e2 : 2 * (i0 : Int) + 1 < 2 * (n : Int) := by omega
      have e3 : (0 : Int) ≤ 2 * (i0 : Int) := by omega
      have hks : l[2 * i0].size ≤ 2147483647 := HK.out _ (List.getElem_mem _)
      have hvs : l[2 * i0 + 1].size ≤ 2147483647 := HK.out _ (List.getElem_mem _)
      rw [show l.getD (2 * i0) ⟨#[]⟩ = l[2 * i0] by simp [List.getD, hjl]] at hrep hpre hne
      rw [show l.getD (2 * i0 + 1) ⟨#[]⟩ = l[2 * i0 + 1] by simp [List.getD, hjl2]] at hrep
      have HB0 := Lib.hid (HS.out.below B)
      have HC1 : Hid (∀ w1, Below w.heap.size w w1 → w1.cell? (x.add (2 * i0)) = some (.string l[2 * i0])) := Lib.hid (fun w1 hb => by
        obtain ⟨y, hy, _, hc⟩ := HS.out.below hb (2 * i0) hjl
        obtain rfl := Option.some.inj hy
        exact hc)
      clear hf hh hx'
      generalize l[2 * i0] = key at *
      generalize l[2 * i0 + 1] = val at *
      have hkl : key.data.toList.length = key.size := by simp
      have hvl : val.data.toList.length = val.size := by simp
      rw [hkl, List.length_drop, HSL.out] at hpre
      rw [hrep, List.length_append] at hlen
      simp only at hlen
      rw [hvl] at hlen
      simp only [List.drop_drop] at hrep
      rw [hkl] at hrep
      have HR := Lib.hid hrep
      have HNE := Lib.hid hne
      have h5 : i + key.size ≤ s.size := by omega
      have hsum : (i : Int) + key.size ≤ s.size := by omega
      have hemp : key.toList.isEmpty = decide (key.size = 0) := empty_of2 key
      have HKL := Lib.hid hkl
      clear hrep hne hkl hvl hpre
      have REL : ∀ (v' : Value) (w1 : World), OwnB w1 w.heap.size v' (acc ++ val.data.toList) → Below w.heap.size w w1 → SrRel w l s (2 * (s.size - (i + key.size)) + (if (!key.data.toList.isEmpty) then 1 else 0)) v' (.bool (!key.data.toList.isEmpty)) (.int .i64 ((i + key.size : Nat) : Int)) w1 := fun v' w1 h1 h2 =>
        ⟨i + key.size, !key.data.toList.isEmpty, acc ++ val.data.toList, rfl, rfl, h5, h1, h2, by rw [List.append_assoc, ← HA.out, HR.out], Nat.le_refl _⟩
      have hdec : 2 * (s.size - (i + key.size)) + (if (!key.data.toList.isEmpty) then 1 else 0) < gk := by
        have h1 := HG.out
        by_cases h0 : key.size = 0
        · have hk0 : key.data.toList = [] := (nil_iff key).2 h0
          have hem : em = true := by
            cases hem : em with
            | true => rfl
            | false => exact absurd ⟨by rw [hem]; rfl, hk0⟩ HNE.out
          rw [hem] at h1
          rw [hk0]
          simp at h1 ⊢
          omega
        · by_cases hem : (!key.data.toList.isEmpty) = true
          · rw [if_pos hem]; omega
          · rw [if_neg hem]; omega
      have HREL := Lib.hid REL
      have HDEC := Lib.hid hdec
      clear REL hdec
      by_cases hk0 : key.size = 0
      · rw [decide_eq_true hk0] at hemp
        have he : (!key.data.toList.isEmpty) = false := by rw [(nil_iff key).2 hk0]; rfl
        rw [he] at HREL HDEC
        clear hk0 he
        go_wp2_with (first
          | (go_at_call 39; refine (firstAt_yes _ n cap l s i em w.heap.size _ HL.out HB0.out hn HK.out (by omega) hi i0 HF.out).mono ?_; rintro e w' ⟨rfl, rfl⟩)
          | (at_builtin; refine appB_str (by rfl) _ _ 44 Try.underlying44 (by rfl) _ w.heap.size _ acc val (by rfl) (by rfl) HOWN.out (by omega) hBs ?_; intro v1 w1 hown1 hgr; have hB1 := below_appB B HOWN.out (Nat.le_refl _) hBs hgr; have hc1 := HC1.out _ hB1; have HO1 := Lib.hid hown1; have HB1 := Lib.hid hB1; clear hown1 hgr hB1))
        go_roundg (2 * (s.size - (i + key.size)) + (if (false : Bool) then 1 else 0))
        case rel =>
          have := HREL.out _ _ HO1.out HB1.out
          push_cast at this
          exact this
        case measure => exact HDEC.out
      · rw [decide_eq_false hk0] at hemp
        have he : (!key.data.toList.isEmpty) = true := by
          cases hd : key.data.toList with
          | nil => exact absurd ((nil_iff key).1 hd) hk0
          | cons => rfl
        rw [he] at HREL HDEC
        clear hk0 he
        go_wp2_with (first
          | (go_at_call 39; refine (firstAt_yes _ n cap l s i em w.heap.size _ HL.out HB0.out hn HK.out (by omega) hi i0 HF.out).mono ?_; rintro e w' ⟨rfl, rfl⟩)
          | (at_builtin; refine appB_str (by rfl) _ _ 44 Try.underlying44 (by rfl) _ w.heap.size _ acc val (by rfl) (by rfl) HOWN.out (by omega) hBs ?_; intro v1 w1 hown1 hgr; have hB1 := below_appB B HOWN.out (Nat.le_refl _) hBs hgr; have hc1 := HC1.out _ hB1; have HO1 := Lib.hid hown1; have HB1 := Lib.hid hB1; clear hown1 hgr hB1))
        go_roundg (2 * (s.size - (i + key.size)) + (if (true : Bool) then 1 else 0))
        case rel =>
          have := HREL.out _ _ HO1.out HB1.out
          push_cast at this
          exact this
        case measure => exact HDEC.out
    · have hh := hit_noneAt HL.out hf
      have HF := Lib.hid hf
      have HB0 := Lib.hid (HS.out.below B)
      have e0 : ¬ (0 : Int) ≤ -1 := by omega
      clear hf
      by_cases hlt : i < s.size
      · have hil : i < s.data.toList.length := by rw [HSL.out]; exact hlt
        have hd : s.data.toList.drop i = s[i] :: s.data.toList.drop (i + 1) := by
          rw [List.drop_eq_getElem_cons hil]; rfl
        have hrep : rep (prs l) em (s.data.toList.drop i) = s[i] :: rep (prs l) true (s.data.toList.drop (i + 1)) := by
          rw [hd] at hh ⊢
          exact rep_cons hh
        rw [hrep] at hlen
        simp only [List.length_cons] at hlen
        have i1 : (i : Int) < s.size := by omega
        have i2 : ((i : Int) == s.size) = false := beq_eq_false_iff_ne.2 (by omega)
        have REL : ∀ (v' : Value) (w1 : World), OwnB w1 w.heap.size v' (acc ++ [s[i]]) → Below w.heap.size w w1 → SrRel w l s (2 * (s.size - (i + 1)) + 1) v' (.bool true) (.int .i64 ((i + 1 : Nat) : Int)) w1 := fun v' w1 h1 h2 =>
          ⟨i + 1, true, acc ++ [s[i]], rfl, rfl, hlt, h1, h2, by rw [List.append_assoc, ← HA.out, hrep]; rfl, Nat.le_refl _⟩
        have HREL := Lib.hid REL
        clear REL hrep hd hh
        go_wp2_with (first
          | (go_at_call 39; refine (firstAt_no _ n cap l s i em w.heap.size _ HL.out HB0.out hn HK.out (by omega) hi HF.out).mono ?_; rintro e w' ⟨rfl, rfl⟩)
          | (at_builtin; refine appB_one (by rfl) _ _ 44 Try.underlying44 (by rfl) wr w.heap.size _ acc s[i] _ (by rfl) (by rfl) HOWN.out (by omega) hBs ?_; intro v1 w1 hown1 hgr; have HB1 := Lib.hid (below_appB1 B HOWN.out (Nat.le_refl _) hBs hgr); have HO1 := Lib.hid hown1; clear hown1 hgr))
        go_roundg (2 * (s.size - (i + 1)) + 1)
        case rel =>
          have := HREL.out _ _ HO1.out HB1.out
          push_cast at this
          exact this
        case measure => have := HG.out; omega
      · obtain rfl : i = s.size := by omega
        have i2 : ((s.size : Int) == s.size) = true := beq_iff_eq.2 rfl
        have hnil : s.data.toList.drop s.size = [] := List.drop_eq_nil_of_le (Nat.le_of_eq HSL.out)
        have hfin : acc = rep (prs l) true s.data.toList := by
          have h1 := HA.out
          rw [hnil] at h1 hh
          rw [rep_nil hh, List.append_nil] at h1
          exact h1
        have hbk := HOWN.out.back 44 Try.underlying44
        have HFIN := Lib.hid hfin
        clear hfin hh hnil
        go_wp2_with (go_at_call 39; refine (firstAt_no _ n cap l s s.size em w.heap.size _ HL.out HB0.out hn HK.out (by omega) hi HF.out).mono ?_; rintro e w' ⟨rfl, rfl⟩)
        go_ret
        rw [← HFIN.out]
        exact ⟨rfl, B⟩
end Go.Proofs.Yteajdljmbjdbkaa
