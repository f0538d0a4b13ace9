/- strings.Replace of the empty text. -/
import Derived.Test.YthnbifkcbeldmaaDoorReplS
import Derived.Test.YthnbifkcbeldmaaDoorSplit
import Derived.Test.YthnbifkcbeldmaaDoorLawCount
import Derived.Test.YthnbifkcbeldmaaDoorExplode
namespace Go.Proofs.YthnbifkcbeldmaaDoor
open Go.RowKit Go.Lib
set_option linter.unusedVariables false
theorem own_later {w w' : World} {B e size n : Nat} {v : Value} {xs : List Value} (h : w.ownsRow B e size v n xs) (hb : Below w.heap.size w w') : w'.ownsRow B e size v n xs := by
  refine ⟨h.1, ?_⟩
  rcases h.2 with h0 | ⟨g, cap, cur, hv, hB, hg, rest⟩
  · exact .inl h0
  · exact .inr ⟨g, cap, cur, hv, hB, (hb.block g (Array.getElem?_eq_some_iff.1 hg).1).trans hg, rest⟩
theorem bldAt_later {T e B b : Nat} {p : Value} {bs : List Value} {w w' : World} (h : Lib.BuilderAt T e B b p bs w) (hb : Below w.heap.size w w') : Lib.BuilderAt T e B b p bs w' := by
  obtain ⟨h1, v, h2, h3, h4⟩ := h
  exact ⟨h1, v, (hb.block b (Array.getElem?_eq_some_iff.1 h2).1).trans h2, own_later h3 hb, h4⟩
theorem grow0 (S K ns : Nat) (hb : S + K * ns ≤ 70368744177664) : wrap64 ((S : Int) + wrap64 ((K : Int) * (ns : Int))) = ((S + K * ns : Nat) : Int) := by
  have h : (K : Int) * (ns : Int) = ((K * ns : Nat) : Int) := by push_cast; rfl
  rw [h]
  generalize K * ns = A at *
  unfold wrap64
  omega
theorem cast_add_mul (S K ns : Nat) : (S : Int) + (K : Int) * (ns : Int) = ((S + K * ns : Nat) : Int) := by push_cast; rfl
theorem Bld.later {w w' : World} {B b : Nat} {acc : List UInt8} (h : Bld w B b acc) (hb : Below w.heap.size w w') : Bld w' B b acc := by
  rcases h with h | h
  · exact .inl (bldAt_later h hb)
  · exact .inr (bldAt_later h hb)
theorem rj_whole (s new : ByteArray) (K : Nat) (h : 1 ≤ K) : rj s.data.toList new.data.toList 0 ((starts s ++ [s.size]).take K) 0 = new.data.toList ++ rj s.data.toList new.data.toList 0 ((endsOf s 0).take (K - 1)) 0 := by
  obtain ⟨k, rfl⟩ : ∃ k, K = k + 1 := ⟨K - 1, by omega⟩
  rw [← tailStarts_zero, tail_ends s 0 (Nat.zero_le _), List.take_succ_cons, rj]
  simp
theorem ends_len (s : ByteArray) : (endsOf s 0).length = runeCount s := by
  have := tail_ends s 0 (Nat.zero_le _)
  have h := congrArg List.length this
  rw [tailStarts_zero, List.length_append, List.length_singleton, List.length_cons, starts_length] at h
  omega
theorem rj_one {s new : ByteArray} {f g : Nat} (hf : f < s.size) : rj s.data.toList new.data.toList 0 ((endsOf s f).take (g + 1)) f = (s.data.toList.drop f).take (Utf8.decode s f).2 ++ new.data.toList ++ rj s.data.toList new.data.toList 0 ((endsOf s (f + (Utf8.decode s f).2)).take g) (f + (Utf8.decode s f).2) := by
  rw [ends_step hf, List.take_succ_cons, rj, Nat.add_sub_cancel_left, Nat.add_zero]
set_option maxHeartbeats 16000000 in
set_option maxRecDepth 1000000 in
theorem replaceEmpty (s old new : ByteArray) (n : Int) (w : World) (hs : s.size ≤ 2147483647) (h0 : old.size = 0) (hne : old ≠ new) (hn0 : n ≠ 0) (hlen : s.size + (s.size + 1) * new.size ≤ 70368744177664) (hT : Utf8Tabs 2 3 w) :
    Calls Tryd.prog 50 #[.string s, .string old, .string new, .int .i64 n] w fun e w' =>
      e = .returned (.string ⟨(rj s.data.toList new.data.toList 0 ((starts s ++ [s.size]).take (howMany (runeCount s + 1) n)) 0).toArray⟩) ∧ Below w.heap.size w w' := by
  have hC : Calls Tryd.prog 80 #[.string s, .string old] w fun e w' => e = .returned (.int .i64 ((runeCount s + 1 : Nat) : Int)) ∧ Below w.heap.size w w' := by
    rw [← cntB_empty s old h0]
    exact gsCount s old (by omega) (by omega) w
  have HT := Lib.hid hT
  have hrl := runeCount_le s
  have HE := Lib.hid (ends_len s)
  obtain ⟨K, hK⟩ : ∃ K : Nat, howMany (runeCount s + 1) n = K := ⟨_, rfl⟩
  rw [hK]
  obtain ⟨cn, hcn⟩ : ∃ cn : Nat, runeCount s + 1 = cn := ⟨_, rfl⟩
  rw [hcn] at hC hK
  have hbeq : (old.toList == new.toList) = false := beq_no hne
  have hnz : (n == 0) = false := beq_eq_false_iff_ne.2 hn0
  have hcz : ((cn : Int) == 0) = false := beq_eq_false_iff_ne.2 (by omega)
  have hlenL : s.data.toList.length = s.size := (Lib.size_eq s).symm
  have hK1 : 1 ≤ K ∧ K ≤ cn ∧ ((n < 0 ∨ (cn : Int) < n) → K = cn) ∧ (¬ (n < 0 ∨ (cn : Int) < n) → n = (K : Int)) := by
    unfold howMany at hK
    by_cases hcase : n < 0 ∨ (cn : Int) < n
    · rw [if_pos hcase] at hK
      exact ⟨by omega, by omega, fun _ => hK.symm, fun h => absurd hcase h⟩
    · rw [if_neg hcase] at hK
      exact ⟨by omega, by omega, fun h => absurd h hcase, fun _ => by omega⟩
  obtain ⟨hK1, hKc, hKa, hKb⟩ := hK1
  have hKn : s.size + K * new.size ≤ 70368744177664 := by have := Nat.mul_le_mul_right new.size (show K ≤ s.size + 1 by omega); omega
  have hK2 : K ≤ 2147483648 := by omega
  have hcn2 : cn ≤ 2147483648 := by omega
  have hns : new.size ≤ 70368744177664 := Nat.le_trans (Nat.le_mul_of_pos_left new.size hK1) (Nat.le_trans (Nat.le_add_left _ _) hKn)
  have hga := grow0 s.size K new.size hKn
  have HWH := Lib.hid (rj_whole s new K hK1)
  obtain ⟨tot, htot⟩ : ∃ tot, rj s.data.toList new.data.toList 0 ((starts s ++ [s.size]).take K) 0 = tot := ⟨_, rfl⟩
  rw [htot] at HWH ⊢
  have HKE := Lib.hid (show K - 1 ≤ (endsOf s 0).length by rw [HE.out]; omega)
  clear hK hcn hlen hT htot
  have hdisj : (K = cn ∧ (n < 0 ∨ (cn : Int) < n)) ∨ (n = (K : Int) ∧ ¬ (n < 0 ∨ (cn : Int) < n)) := by
    by_cases hcase : n < 0 ∨ (cn : Int) < n
    · exact Or.inl ⟨hKa hcase, hcase⟩
    · exact Or.inr ⟨hKb hcase, hcase⟩
  clear hKa hKb
  have hod : decide (0 < old.size) = false := decide_eq_false (by omega)
  rcases hdisj with ⟨rfl, hcase⟩ | ⟨rfl, hcase⟩
  all_goals (
    go_enter Tryd.func50, Tryd.ntmps50
    go_wp2_with (first | (go_at_call 80; refine hC.mono ?_; rintro e wc ⟨rfl, hBc⟩))
    all_goals (
    rw [cast_add_mul]
    refine (bldGrow wc.heap.size wc.heap.size (s.size + K * new.size) [] _ (Bld.new wc) (by simp only [List.length_nil]; omega) (by simp)).mono ?_
    rintro e w1 ⟨rfl, hb0, hb1⟩
    have H1 := Lib.hid hb0.bld
    have Hb1 := Lib.hid (((Below.refl wc.heap.size wc).alloc (Nat.le_refl _) _).trans hb1)
    clear hb0 hb1 hga hC
    have hw1 : wc.heap.size ≤ w1.heap.size := Hb1.out.size
    go_wp2_with fail
    refine (bldWrite wc.heap.size wc.heap.size [] new w1 H1.out (by simp only [List.length_nil]; omega) hw1).mono ?_
    rintro e w2 ⟨rfl, hb0, hb1⟩
    rw [List.nil_append] at hb0
    have H2 := Lib.hid hb0.bld
    have Hb2 := Lib.hid (Hb1.out.trans hb1)
    have HBC := Lib.hid hBc
    clear hb0 hb1 hBc
    go_wp2_with fail
    go_loopg [11, 78] (K - 1) (fun g s11 s78 wx => ∃ (i start : Nat) (acc : List UInt8), s78 = .int .i64 i ∧ s11 = .int .i64 start ∧ i + g = K - 1 ∧ start ≤ s.size ∧
      Hid (Bld wx wc.heap.size wc.heap.size acc) ∧ Hid (Below wc.heap.size wc wx) ∧ Hid (acc ++ rj s.data.toList new.data.toList 0 ((endsOf s start).take g) start = tot) ∧
      Hid (g ≤ (endsOf s start).length) ∧ acc.length + (s.size - start) + g * new.size ≤ s.size + K * new.size)
    case atStart => exact ⟨0, 0, new.data.toList, rfl, rfl, by omega, Nat.zero_le _, H2, Hb2, Lib.hid HWH.out.symm, HKE, by
      have : K * new.size = (K - 1) * new.size + new.size := by rw [← Nat.succ_mul, Nat.succ_eq_add_one, Nat.sub_add_cancel hK1]
      rw [← Lib.size_eq]; omega⟩
    case round =>
      obtain ⟨i, start, acc, rfl, rfl, hig, hst, HB, HW, HR, HG, hbd⟩ := hrel
      have hBw : wc.heap.size ≤ wr.heap.size := HW.out.size
      have c1 : (0 : Int) ≤ (start : Int) := by omega
      have c2 : (start : Int) ≤ (s.size : Int) := by omega
      cases gk with
      | zero =>
        have hiK : ¬ ((i : Int) < (K : Int) - 1) := by omega
        go_wp2_with fail
        refine (bldWrite wc.heap.size wc.heap.size acc (s.extract start s.size) wr HB.out (by rw [ByteArray.size_extract]; omega) hBw).mono ?_
        rintro e w3 ⟨rfl, h3, hb3⟩
        rw [Lib.extract_to_end] at h3
        have hfin : acc ++ s.data.toList.drop start = tot := by
          have := HR.out
          rwa [List.take_zero, rj] at this
        rw [hfin] at h3
        have H3 := Lib.hid h3.bld
        have Hb3 := Lib.hid (HW.out.trans hb3)
        have hBw3 : wc.heap.size ≤ w3.heap.size := Hb3.out.size
        clear h3 hb3 hfin
        go_wp2_with fail
        refine (Tryd.Builder_String_any wc.heap.size wc.heap.size _ w3 H3.out hBw3).mono ?_
        rintro e w5 ⟨rfl, hb5⟩
        have Hb5 := Lib.hid (chain HBC.out (Hb3.out.trans hb5))
        clear hb5
        go_wp2
        go_ret
        exact ⟨rfl, Hb5.out⟩
      | succ g =>
        have hiK : (i : Int) < (K : Int) - 1 := by omega
        have hlt : start < s.size := by
          rcases Nat.lt_or_ge start s.size with h | h
          · exact h
          · have := HG.out
            rw [ends_end (by omega)] at this
            simp at this
        have hwl := decode_w_le s start hlt
        have hone := rj_one (new := new) (g := g) hlt
        have hG2 : Hid (g ≤ (endsOf s (start + (Utf8.decode s start).2)).length) := Lib.hid (by
          have := HG.out
          rw [ends_step hlt, List.length_cons] at this
          omega)
        have DS := Lib.hid (decode_sub s start hlt)
        have hR2 := HR.out
        rw [hone] at hR2
        clear hone
        obtain ⟨wd, hwd⟩ : ∃ wd, (Utf8.decode s start).2 = wd := ⟨_, rfl⟩
        rw [hwd] at hwl hG2 hR2
        have HWD := Lib.hid hwd
        clear hwd
        have hsucc : (g + 1) * new.size = g * new.size + new.size := Nat.succ_mul _ _
        have c3 : (start : Int) ≤ (start : Int) + (wd : Int) := by omega
        have c4 : (start : Int) + (wd : Int) ≤ (s.size : Int) := by omega
        have hnext : acc ++ (s.extract start (start + wd)).data.toList ++ new.data.toList = acc ++ (s.data.toList.drop start).take wd ++ new.data.toList := by
          rw [Lib.extract_data, Nat.add_sub_cancel_left]
        have Hrep : Hid (acc ++ (s.data.toList.drop start).take wd ++ new.data.toList ++ rj s.data.toList new.data.toList 0 ((endsOf s (start + wd)).take g) (start + wd) = tot) := Lib.hid (by
          rw [← hR2]; simp only [List.append_assoc])
        have htl : ((s.data.toList.drop start).take wd).length = wd := by rw [List.length_take, List.length_drop, hlenL]; omega
        have Hn := Lib.hid hnext
        have HTX := Lib.hid (Utf8Tabs_below HT.out (chain HBC.out HW.out))
        clear hnext hR2 HR HG
        go_wp2_with (go_at_call 84; refine (Tryd.utf8_DecodeRuneInString (s.extract start s.size) wr HTX.out).mono ?_; rintro e wd1 ⟨rfl, hBd⟩; rw [DS.out, HWD.out])
        have HBd := Lib.hid (HB.out.later hBd)
        have HWd := Lib.hid (HW.out.trans (hBd.mono hBw))
        have hBwd : wc.heap.size ≤ wd1.heap.size := HWd.out.size
        clear hBd
        refine (bldWrite wc.heap.size wc.heap.size acc (s.extract start (start + wd)) wd1 HBd.out (by rw [ByteArray.size_extract]; omega) hBwd).mono ?_
        rintro e w3 ⟨rfl, h3, hb3⟩
        have hBw3 : wc.heap.size ≤ w3.heap.size := Nat.le_trans hBwd hb3.size
        have H3 := Lib.hid h3.bld
        have Hb3 := Lib.hid hb3
        clear h3 hb3
        go_wp2_with fail
        refine (bldWrite wc.heap.size wc.heap.size _ new w3 H3.out (by rw [List.length_append, ← Lib.size_eq, ByteArray.size_extract]; omega) hBw3).mono ?_
        rintro e w4 ⟨rfl, h4, hb4⟩
        rw [Hn.out] at h4
        have H4 := Lib.hid h4.bld
        have Hb4 := Lib.hid ((HWd.out.trans Hb3.out).trans hb4)
        clear h4 hb4
        go_wp2
        go_roundg g
        case measure => omega
        case rel => exact ⟨i + 1, start + wd, _, by first | rfl | (simp; unfold wrap64; omega), by first | rfl | simp | (simp; unfold wrap64; omega), by omega, by omega, H4, Hb4, Hrep, hG2, by simp only [List.length_append, htl, ← Lib.size_eq]; omega⟩))
end Go.Proofs.YthnbifkcbeldmaaDoor
