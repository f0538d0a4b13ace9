/- bytes.Replace over rows, at the empty text. -/
import Derived.Test.YthnbifkcbeldmaaDoorBRep
import Derived.Test.YthnbifkcbeldmaaDoorDecRow2
import Derived.Test.YthnbifkcbeldmaaDoorReplE
namespace Go.Proofs.YthnbifkcbeldmaaDoor
open Go Go.RowKit Go.Lib
set_option linter.unusedVariables false
theorem bufLater {w0 wr w' : World} {h N : Nat} {acc : List UInt8} (hb : Buf w0 wr h N acc) (hl : Below wr.heap.size wr w') (hh : h ≤ wr.heap.size) : Buf w0 w' h N acc := by
  have hlt : ∀ j, j < N → h < wr.heap.size := fun j hj => by
    obtain ⟨v, hv⟩ := Option.isSome_iff_exists.1 (hb.there j hj)
    exact cell_lt hv
  refine ⟨hb.below.trans (hl.mono hh), fun j hj => ?_, fun j hj => ?_, fun j x hx => ?_, hb.fits⟩
  · rw [hl.cell (p := ⟨h, j, none⟩) (hlt j hj)]; exact hb.there j hj
  · rw [hl.frozen (p := ⟨h, j, none⟩) (hlt j hj)]; exact hb.free j hj
  · have hj : j < N := Nat.lt_of_lt_of_le (List.getElem?_eq_some_iff.1 hx).1 hb.fits
    rw [hl.cell (p := ⟨h, j, none⟩) (hlt j hj)]; exact hb.holds j x hx
theorem rjE_len (s new : ByteArray) : ∀ g f, f ≤ s.size → g ≤ (endsOf s f).length → (rj s.data.toList new.data.toList 0 ((endsOf s f).take g) f).length = s.size - f + g * new.size
  | 0, f, hf, _ => by rw [List.take_zero, rj, List.length_drop, ← Lib.size_eq]; omega
  | g + 1, f, hf, h => by
    have hlt : f < s.size := by
      rcases Nat.lt_or_ge f s.size with h' | h'
      · exact h'
      · rw [ends_end (by omega)] at h; simp at h
    have h2 := decode_w_le s f hlt
    rw [rj_one hlt]
    rw [ends_step hlt, List.length_cons] at h
    have ih := rjE_len s new g (f + (Utf8.decode s f).2) h2 (by omega)
    rw [List.length_append, List.length_append, ih, List.length_take, List.length_drop, ← Lib.size_eq, ← Lib.size_eq, Nat.succ_mul]
    omega
set_option maxHeartbeats 4000000 in
set_option maxRecDepth 100000 in
theorem gbReplaceEmpty (b1 o1 c1 b2 o2 c2 b3 o3 c3 : Nat) (s old new : ByteArray) (n : Int) (w : World) (r1 : Row w b1 o1 s) (r2 : Row w b2 o2 old) (r3 : Row w b3 o3 new) (hcap : s.size ≤ c1)
    (hs : s.size ≤ 1048576) (hnew : new.size ≤ 1048576) (h0 : old.size = 0) (hn0 : n ≠ 0) (hlen : s.size + (s.size + 1) * new.size ≤ 70368744177664) (hT : Utf8Tabs 2 3 w) :
    Calls Tryd.prog 57 #[.slice (some ⟨b1, o1, none⟩) s.size c1, .slice (some ⟨b2, o2, none⟩) old.size c2, .slice (some ⟨b3, o3, none⟩) new.size c3, .int .i64 n] w
      (RetRow w ⟨(rj s.data.toList new.data.toList 0 ((starts s ++ [s.size]).take (howMany (runeCount s + 1) n)) 0).toArray⟩) := by
  have hC : Calls Tryd.prog 92 #[.slice (some ⟨b1, o1, none⟩) s.size c1, .slice (some ⟨b2, o2, none⟩) old.size c2] w fun e w' => e = .returned (.int .i64 ((runeCount s + 1 : Nat) : Int)) ∧ Below w.heap.size w w' := by
    rw [← cntB_empty s old h0]
    exact gbCount _ _ _ _ _ _ s old (by omega) (by omega) w r1 r2 hcap
  have HT := Lib.hid hT
  have hrl := runeCount_le s
  have HE := Lib.hid (ends_len s)
  obtain ⟨K, hK⟩ : ∃ K : Nat, howMany (runeCount s + 1) n = K := ⟨_, rfl⟩
  rw [hK]
  obtain ⟨cn, hcn⟩ : ∃ cn : Nat, runeCount s + 1 = cn := ⟨_, rfl⟩
  rw [hcn] at hC hK
  have hnz : (n == 0) = false := beq_eq_false_iff_ne.2 hn0
  have hcz : ((cn : Int) == 0) = false := beq_eq_false_iff_ne.2 (by omega)
  have hlenL : s.data.toList.length = s.size := (Lib.size_eq s).symm
  have hlenN : new.data.toList.length = new.size := (Lib.size_eq new).symm
  have hK1 : 1 ≤ K ∧ K ≤ cn ∧ ((n < 0 ∨ (cn : Int) < n) → K = cn) ∧ (¬ (n < 0 ∨ (cn : Int) < n) → n = (K : Int)) := by
    unfold howMany at hK
    by_cases hcase : n < 0 ∨ (cn : Int) < n
    · rw [if_pos hcase] at hK
      exact ⟨by omega, by omega, fun _ => hK.symm, fun h => absurd hcase h⟩
    · rw [if_neg hcase] at hK
      exact ⟨by omega, by omega, fun h => absurd h hcase, fun _ => by omega⟩
  obtain ⟨hK1, hKc, hKa, hKb⟩ := hK1
  have hKn : s.size + K * new.size ≤ 70368744177664 := by have := Nat.mul_le_mul_right new.size (show K ≤ s.size + 1 by omega); omega
  have hga : wrap64 ((s.size : Int) + wrap64 ((K : Int) * ((new.size : Int) - (old.size : Int)))) = ((s.size + K * new.size : Nat) : Int) := by
    rw [h0, Int.ofNat_zero, Int.sub_zero]
    exact grow0 s.size K new.size hKn
  have hK2 : K ≤ 1048577 := by omega
  have hWH := rj_whole s new K hK1
  have hKE : K - 1 ≤ (endsOf s 0).length := by rw [HE.out]; omega
  have hle := rjE_len s new (K - 1) 0 (Nat.zero_le _) hKE
  obtain ⟨tot, htot⟩ : ∃ tot, rj s.data.toList new.data.toList 0 ((starts s ++ [s.size]).take K) 0 = tot := ⟨_, rfl⟩
  rw [htot] at hWH ⊢
  obtain ⟨N, hN⟩ : ∃ N : Nat, s.size + K * new.size = N := ⟨_, rfl⟩
  have hNt : tot.length = N := by
    rw [hWH, List.length_append, hle, hlenN, ← hN]
    have : K * new.size = (K - 1) * new.size + new.size := by rw [← Nat.succ_mul, Nat.succ_eq_add_one, Nat.sub_add_cancel hK1]
    omega
  have hnN : new.size ≤ N := by
    have := Nat.le_mul_of_pos_left new.size hK1
    omega
  rw [hN] at hga hKn
  have HNT := Lib.hid hNt
  have HWH := Lib.hid hWH
  have HKE := Lib.hid hKE
  have R1 := Lib.hid r1
  have R2 := Lib.hid r2
  have R3 := Lib.hid r3
  have hod : decide (0 < old.size) = false := decide_eq_false (by omega)
  have hodI : ¬ (0 : Int) < (old.size : Int) := by omega
  have ho1 : old.size ≤ 1048576 := by omega
  have HO := Lib.hid h0
  clear hK hcn hlen hT htot hWH hKE hle hN hNt r1 r2 r3 h0 HE hrl
  have hdisj : (K = cn ∧ (n < 0 ∨ (cn : Int) < n)) ∨ (n = (K : Int) ∧ ¬ (n < 0 ∨ (cn : Int) < n)) := by
    by_cases hcase : n < 0 ∨ (cn : Int) < n
    · exact Or.inl ⟨hKa hcase, hcase⟩
    · exact Or.inr ⟨hKb hcase, hcase⟩
  clear hKa hKb
  have hkd : decide ((K : Int) < 0) = false := decide_eq_false (by omega)
  have hkd2 : decide (cn < K) = false := decide_eq_false (by omega)
  have hmk : ∀ u : World, (Instr.makeSlice 24 (.int .i64 (N : Int)) (.int .i64 (N : Int))).run Tryd.prog u =
      .ok (.slice (some ⟨u.heap.size, 0, none⟩) N N) (u.alloc (.cells (madeCells #[.int .u8 0] N) 5)) := fun u => by
    obtain ⟨i0, hi, hz0, hz1, hz2⟩ := info_parts info8
    have h := run_make (P := Tryd.prog) u 24 5 i0 (.int .u8 0) Tryd.underlying24 hi hz0 .i64 .i64 (N : Int) (N : Int) (by omega) (Int.le_refl _) (by rw [hz2]; omega) (by omega)
    simpa [hz1, Value.cells] using h
  have hK1i : IntKind.i64.wrap ((K : Int) - 1) = (K : Int) - 1 := IntWalk.i64_in _ (by omega)
  rcases hdisj with ⟨rfl, hcase⟩ | ⟨rfl, hcase⟩
  all_goals (
    go_enter Tryd.func57, Tryd.ntmps57
    go_wp2_with (first | (go_at_call 92; refine hC.mono ?_; rintro e wc ⟨rfl, hBc⟩)))
  all_goals (
    clear hC
    try rw [hga]
    have hbw : Below w.heap.size w wc := hBc
    have HBW := Lib.hid hbw
    have RC1 := Lib.hid (R1.out.later hbw)
    have RC3 := Lib.hid (R3.out.later hbw)
    have HTC := Lib.hid (Utf8Tabs_below HT.out hbw)
    clear hBc hbw
    have HB0 : Hid (Buf wc (wc.alloc (.cells (madeCells #[.int .u8 0] N) 5)) wc.heap.size N []) := by
      have := Buf.start wc (madeCells #[.int .u8 0] N) 5 N 0 (by simp [madeCells])
      exact Lib.hid ⟨⟨this.below.os, this.below.tape, this.below.output, this.below.size, this.below.block⟩, this.there, this.free, this.holds, this.fits⟩
    obtain ⟨w2, hr2, B2⟩ := Lib.copy_part (P := Tryd.prog) wc (wc.alloc (.cells (madeCells #[.int .u8 0] N) 5)) wc.heap.size N [] new.data.toList (.slice (some ⟨b3, o3, none⟩) new.size c3) 24 3 5 Tryd.underlying24 (by kernel_rfl) (by omega) HB0.out (holds_row RC3.out c3) (by rw [hlenN]; simpa using hnN)
    have hmk1 := hmk wc
    have HW1 : wc.heap.size ≤ (wc.alloc (.cells (madeCells #[.int .u8 0] N) 5)).heap.size := by simp
    generalize wc.alloc (.cells (madeCells #[.int .u8 0] N) 5) = w1 at *
    clear hmk
    have hv : ∀ h : Nat, Lib.tailV h N 0 = .slice (some ⟨h, 0, none⟩) N N := fun h => by unfold Lib.tailV; split <;> rfl
    rw [hlenN, List.length_nil, hv] at hr2
    rw [List.nil_append] at B2
    have HB2 := Lib.hid B2
    clear B2
    go_wp2_with fail
    simp only [hr2, Result.andThen]
    rw [Oper.upon_value]
    go_wp2_with fail
    clear hmk1 hr2 hv
    generalize hh : wc.heap.size = h at *
    clear hga HB0
    go_loopg [11, 12, 14, 15, 16, 89] (K - 1) (fun g s11 s12 _ _ _ s89 wx => ∃ (i start : Nat) (acc : List UInt8), s89 = .int .i64 i ∧ s12 = .int .i64 start ∧ s11 = .int .i64 acc.length ∧ i + g = K - 1 ∧ start ≤ s.size ∧
      Hid (Buf wc wx h N acc) ∧ Hid (acc ++ rj s.data.toList new.data.toList 0 ((endsOf s start).take g) start = tot) ∧ Hid (g ≤ (endsOf s start).length) ∧ acc.length ≤ N)
    case atStart => exact ⟨0, 0, new.data.toList, rfl, rfl, by rw [hlenN], by omega, Nat.zero_le _, HB2, Lib.hid HWH.out.symm, HKE, by rw [hlenN]; exact hnN⟩
    case round =>
      obtain ⟨i, start, acc, rfl, rfl, rfl, hig, hst, HB, HR, HG, hbd⟩ := hrel
      cases gk with
      | zero =>
        have hiK : ¬ ((i : Int) < (K : Int) - 1) := by omega
        have hT1 : ∀ W, (Instr.slice 24 (.slice (some ⟨h, 0, none⟩) N N) (some (.int .i64 (acc.length : Int))) none none).run Tryd.prog W = .ok (Lib.tailV h N acc.length) W := fun W => Lib.run_slice_tailV W 24 5 Tryd.underlying24 (fun w => by kernel_rfl) h N acc.length hbd
        have hS1 : ∀ W, (Instr.slice 24 (.slice (some ⟨b1, o1, none⟩) s.size c1) (some (.int .i64 (start : Int))) none none).run Tryd.prog W = .ok (subV b1 o1 c1 start s.size) W := fun W => run_sub_l W b1 o1 s.size c1 start hst
        have hfin : acc ++ s.data.toList.drop start = tot := by
          have := HR.out
          rwa [List.take_zero, rj] at this
        have hHB := holds_sub (c := c1) RC1.out hcap start s.size hst (Nat.le_refl _)
        rw [List.take_of_length_le (by rw [List.length_drop, hlenL]; exact Nat.le_refl _)] at hHB
        clear HR HG
        generalize s.data.toList.drop start = pc at *
        generalize subV b1 o1 c1 start s.size = sv at *
        have hsum : acc.length + pc.length = N := by rw [← HNT.out, ← hfin, List.length_append]
        have hR1 : ∀ W, (Instr.slice 24 (.slice (some ⟨h, 0, none⟩) N N) (some (.int .i64 0)) (some (.int .i64 ((acc.length : Int) + (pc.length : Int)))) none).run Tryd.prog W = .ok (.slice (some ⟨h, 0, none⟩) N N) W := fun W => by
          have := run_sub_lh W h 0 N N 0 N (Nat.zero_le _) (Nat.le_refl _)
          rw [show ((acc.length : Int) + (pc.length : Int)) = ((N : Nat) : Int) by omega]
          simpa [subV] using this
        obtain ⟨w3, hr3, B3⟩ := Lib.copy_part (P := Tryd.prog) wc wr.drew h N acc pc sv 24 3 5 Tryd.underlying24 (by kernel_rfl) (by omega) (bufDrewN HB.out 1) hHB (by omega)
        rw [hfin] at B3
        have B3H := Lib.hid B3
        have hwr : IntKind.i64.wrap ((acc.length : Int) + (pc.length : Int)) = (acc.length : Int) + (pc.length : Int) := IntWalk.i64_in _ (by omega)
        have hs2 : (acc.length : Int) + (pc.length : Int) ≤ 140737488355328 := by omega
        clear B3 hHB hfin
        go_wp2_with fail
        go_region_held3 (fun w' => True) (trivial) (fail)
        go_wp2_with fail
        go_ret
        have hRs : (⟨tot.toArray⟩ : ByteArray).size = N := by show tot.toArray.size = N; rw [List.size_toArray]; exact HNT.out
        refine ⟨some ⟨h, 0, none⟩, N, by rw [hRs]; rfl, by rw [hRs]; exact Nat.le_refl _, by unfold maxLen; omega, fun h => (by cases h), fun a ha => ?_, HBW.out.trans (B3H.out.below.mono (by have := HBW.out.size; omega))⟩
        cases ha
        exact ⟨h, 0, rfl, buf_row (R := ⟨tot.toArray⟩) (by simpa using B3H.out)⟩
      | succ g =>
        have hiK : (i : Int) < (K : Int) - 1 := by omega
        have hlt : start < s.size := by
          rcases Nat.lt_or_ge start s.size with h' | h'
          · exact h'
          · have := HG.out
            rw [ends_end (by omega)] at this
            simp at this
        have hwl := decode_w_le s start hlt
        have hrep := HR.out
        rw [rj_one (new := new) (g := g) hlt] at hrep
        have hG2 : g ≤ (endsOf s (start + (Utf8.decode s start).2)).length := by
          have := HG.out
          rw [ends_step hlt, List.length_cons] at this
          omega
        have HI : Hid (Calls Tryd.prog 94 #[subV b1 o1 c1 start s.size] wr fun e w' => (∃ R : Nat, e = .returned (.tuple #[.int .i32 (R : Int), .int .i64 ((Utf8.decode s start).2 : Int)])) ∧ Buf wc w' h N acc) := Lib.hid (by
          have hsz : (s.extract start s.size).size = s.size - start := by rw [ByteArray.size_extract]; omega
          have hbl : Below wc.heap.size wc wr := by rw [hh]; exact HB.out.below
          have hc := decRow b1 (if c1 = start then o1 else o1 + start) (c1 - start) (s.extract start s.size) wr (row_sub (RC1.out.later hbl) hcap start s.size (Nat.le_refl _)) (Utf8Tabs_below HTC.out hbl)
          rw [decode_sub s start hlt, hsz] at hc
          refine hc.mono ?_
          rintro e w' ⟨he, hB'⟩
          exact ⟨⟨_, he⟩, bufLater HB.out hB' (by rw [← hh]; exact hbl.size)⟩)
        obtain ⟨j, hj⟩ : ∃ j, (Utf8.decode s start).2 = j := ⟨_, rfl⟩
        rw [hj] at hwl hrep hG2 HI
        clear hj
        have hHB1 := holds_sub (c := c1) RC1.out hcap start (start + j) (by omega) (by omega)
        rw [Nat.add_sub_cancel_left] at hHB1
        have hHB3 := holds_row RC3.out c3
        have hS1 : ∀ W, (Instr.slice 24 (.slice (some ⟨b1, o1, none⟩) s.size c1) (some (.int .i64 (start : Int))) none none).run Tryd.prog W = .ok (subV b1 o1 c1 start s.size) W := fun W => run_sub_l W b1 o1 s.size c1 start hst
        have hS2 : ∀ W, (Instr.slice 24 (.slice (some ⟨b1, o1, none⟩) s.size c1) (some (.int .i64 (start : Int))) (some (.int .i64 ((start : Int) + (j : Int)))) none).run Tryd.prog W = .ok (subV b1 o1 c1 start (start + j)) W := fun W => by
          have := run_sub_lh W b1 o1 s.size c1 start (start + j) (by omega) (by omega)
          rwa [Int.natCast_add] at this
        have hT1 : ∀ W, (Instr.slice 24 (.slice (some ⟨h, 0, none⟩) N N) (some (.int .i64 (acc.length : Int))) none none).run Tryd.prog W = .ok (Lib.tailV h N acc.length) W := fun W => Lib.run_slice_tailV W 24 5 Tryd.underlying24 (fun w => by kernel_rfl) h N acc.length hbd
        have htl : ((s.data.toList.drop start).take j).length = j := by rw [List.length_take, List.length_drop, hlenL]; omega
        generalize (s.data.toList.drop start).take j = pc at *
        generalize subV b1 o1 c1 start s.size = sv1 at *
        generalize subV b1 o1 c1 start (start + j) = sv2 at *
        have hbnd : acc.length + pc.length + new.size ≤ N := by
          have := congrArg List.length hrep
          rw [HNT.out] at this
          simp only [List.length_append, hlenN] at this
          omega
        have hT2 : ∀ W, (Instr.slice 24 (.slice (some ⟨h, 0, none⟩) N N) (some (.int .i64 ((acc.length : Int) + (pc.length : Int)))) none none).run Tryd.prog W = .ok (Lib.tailV h N (acc.length + pc.length)) W := fun W => by
          have := Lib.run_slice_tailV W 24 5 Tryd.underlying24 (fun w => by kernel_rfl) h N (acc.length + pc.length) (by omega)
          rwa [Int.natCast_add] at this
        have hwr : IntKind.i64.wrap ((acc.length : Int) + (pc.length : Int)) = (acc.length : Int) + (pc.length : Int) := IntWalk.i64_in _ (by omega)
        have hs2 : (acc.length : Int) + (pc.length : Int) ≤ 140737488355328 := by omega
        have hs3 : (acc.length : Int) + (pc.length : Int) + (new.size : Int) ≤ 140737488355328 := by omega
        have hrep2 : (acc ++ pc ++ new.data.toList) ++ rj s.data.toList new.data.toList 0 ((endsOf s (start + j)).take g) (start + j) = tot := by
          rw [← hrep]; simp only [List.append_assoc]
        have HREP := Lib.hid hrep2
        have HCNT := Lib.hid hG2
        have HTL := Lib.hid htl
        have HB1 := Lib.hid hHB1
        have HB3 := Lib.hid hHB3
        have c4 : (start : Int) + (j : Int) ≤ (s.size : Int) := by omega
        clear hrep hrep2 hG2 hHB1 hHB3 HR HG htl
        go_wp2_with (go_at_call 94; refine HI.out.mono ?_; rintro e wi ⟨⟨R, rfl⟩, hBi⟩; obtain ⟨w2, hr2, B2⟩ := Lib.copy_part (P := Tryd.prog) wc wi.drew h N acc pc sv2 24 3 5 Tryd.underlying24 (by kernel_rfl) (by omega) (bufDrewN hBi 1) HB1.out (by omega); obtain ⟨w3, hr3, B3⟩ := Lib.copy_part (P := Tryd.prog) wc w2 h N (acc ++ pc) new.data.toList (.slice (some ⟨b3, o3, none⟩) new.size c3) 24 3 5 Tryd.underlying24 (by kernel_rfl) (by omega) B2 HB3.out (by rw [List.length_append, hlenN]; omega); rw [List.length_append, hlenN] at hr3; have B3H := Lib.hid B3; clear B2 B3 hBi)
        go_region_held3 (fun w' => True) (trivial) (fail)
        go_wp2_with fail
        go_roundg g
        case measure => omega
        case rel =>
          have e1 := HTL.out
          refine ⟨i + 1, start + j, acc ++ pc ++ new.data.toList, by go_num, by go_num, ?_, by omega, by omega, B3H, HREP, HCNT, by rw [List.length_append, List.length_append, hlenN]; omega⟩
          rw [List.length_append, List.length_append, hlenN]
          go_num)
end Go.Proofs.YthnbifkcbeldmaaDoor
