/- bytes.Replace over rows, at an old text that is not empty. -/
import Derived.Test.YthnbifkcbeldmaaDoorLawCountB
import Derived.Test.YthnbifkcbeldmaaDoorRj
import Derived.Lib.ReplaceLaws
import Derived.Lib.SlBuf
import Derived.Deep.DeepCutAuto
import Derived.BigQuiet
import Derived.IntWalk
import Derived.Deep.RegionHeld3
namespace Go.Proofs.YthnbifkcbeldmaaDoor
open Go Go.RowKit Go.Lib
set_option linter.unusedVariables false

/-- a call that returns bytes: nil, or in a row -/
def RetRow (w : World) (R : ByteArray) (e : Ending) (w' : World) : Prop :=
  ∃ p cap, e = .returned (.slice p R.size cap) ∧ R.size ≤ cap ∧ cap ≤ maxLen ∧ (p = none → R.size = 0 ∧ cap = 0) ∧ (∀ a, p = some a → ∃ b o, a = ⟨b, o, none⟩ ∧ Row w' b o R) ∧ Below w.heap.size w w'
/-- 's[i:j]' of bytes in a row -/
def subV (b o c i j : Nat) : Value := .slice (some ⟨b, if c = i then o else o + i, none⟩) (j - i) (c - i)
theorem run_sub_lh (W : World) (b o n c i j : Nat) (h1 : i ≤ j) (h2 : j ≤ c) : (Instr.slice 24 (.slice (some ⟨b, o, none⟩) n c) (some (.int .i64 (i : Int))) (some (.int .i64 (j : Int))) none).run Tryd.prog W = .ok (subV b o c i j) W := by
  have ht' : Tryd.prog.underlying 24 = some (.slice (Tryd.prog.elem 24)) := by simp [Program.elem, Tryd.underlying24]
  have he : Tryd.prog.elem 24 = 5 := by simp [Program.elem, Tryd.underlying24]
  have hz : (Go.sizeOf 5).run Tryd.prog W = .ok 1 W := by kernel_rfl
  rw [run_slice_lh W 24 _ _ _ ht' .i64 .i64 _ _ (by omega) (by omega) (by omega), he, hz]
  unfold subV
  by_cases h0 : c = i
  · simp [Result.andThen, sliced, h0]
  · simp [Result.andThen, sliced, Addr.add, h0]
theorem run_sub_l (W : World) (b o n c i : Nat) (h1 : i ≤ n) : (Instr.slice 24 (.slice (some ⟨b, o, none⟩) n c) (some (.int .i64 (i : Int))) none none).run Tryd.prog W = .ok (subV b o c i n) W := by
  have ht' : Tryd.prog.underlying 24 = some (.slice (Tryd.prog.elem 24)) := by simp [Program.elem, Tryd.underlying24]
  have he : Tryd.prog.elem 24 = 5 := by simp [Program.elem, Tryd.underlying24]
  have hz : (Go.sizeOf 5).run Tryd.prog W = .ok 1 W := by kernel_rfl
  rw [run_slice_l W 24 _ _ _ ht' .i64 _ (by omega) (by omega), he, hz]
  unfold subV
  by_cases h0 : c = i
  · simp [Result.andThen, sliced, h0]
  · simp [Result.andThen, sliced, Addr.add, h0]
theorem holds_row {w : World} {b o : Nat} {s : ByteArray} (h : Row w b o s) (c : Nat) : HoldsBytes w (.slice (some ⟨b, o, none⟩) s.size c) s.data.toList := by
  refine ⟨_, c, by rw [← Lib.size_eq], fun h => (by cases h), fun a ha k x hk => ?_⟩
  cases ha
  have hk2 : k < s.size := by have := (List.getElem?_eq_some_iff.1 hk).1; rwa [← Lib.size_eq] at this
  rw [show (⟨b, o, none⟩ : Addr).add k = ⟨b, o + k, none⟩ by simp [Addr.add], h k hk2]
  rw [data_getElem? s k hk2] at hk
  cases hk
  rfl
theorem row_sub {w : World} {b o c : Nat} {s : ByteArray} (h : Row w b o s) (hc : s.size ≤ c) (i j : Nat) (hj : j ≤ s.size) : Row w b (if c = i then o else o + i) (s.extract i j) := by
  by_cases h0 : c = i
  · intro k hk
    rw [ByteArray.size_extract] at hk
    omega
  · rw [if_neg h0]; exact Row.sub h i j hj
theorem holds_sub {w : World} {b o c : Nat} {s : ByteArray} (h : Row w b o s) (hc : s.size ≤ c) (i j : Nat) (hij : i ≤ j) (hj : j ≤ s.size) : HoldsBytes w (subV b o c i j) ((s.data.toList.drop i).take (j - i)) := by
  have := holds_row (row_sub h hc i j hj) (c - i)
  have e : (s.extract i j).size = j - i := by rw [ByteArray.size_extract]; omega
  rw [e, Lib.extract_data] at this
  exact this
theorem bufDrewN {w0 wr : World} {h N : Nat} {acc : List UInt8} (hb : Buf w0 wr h N acc) (n : Nat) : Buf w0 (wr.drewN n) h N acc := ⟨⟨hb.below.os, hb.below.tape, hb.below.output, hb.below.size, hb.below.block⟩, hb.there, hb.free, hb.holds, hb.fits⟩
theorem buf_row {w0 wr : World} {h N : Nat} {R : ByteArray} (hb : Buf w0 wr h N R.data.toList) : Row wr h 0 R := fun i hi => by
  rw [Nat.zero_add]
  exact hb.holds i R[i] (data_getElem? R i hi)
theorem replaceK_len (O N : List UInt8) (hO : O ≠ []) : ∀ g S, g ≤ count S O → (replaceK O N g S).length + g * O.length = S.length + g * N.length
  | 0, S, _ => by simp [replaceK]
  | g + 1, S, h => by
    obtain ⟨i, hi⟩ := index_of_count (s := S) (old := O) (by omega)
    have hc := count_hit hO hi
    have hr := index_room S O (by omega)
    have ih := replaceK_len O N hO g (S.drop (i + O.length)) (by omega)
    rw [replaceK_hit O N g S i hi]
    rw [List.length_drop] at ih
    simp only [List.length_append, List.length_take, Nat.succ_mul]
    omega

set_option maxHeartbeats 4000000 in
set_option maxRecDepth 100000 in
theorem gbReplaceSome (b1 o1 c1 b2 o2 c2 b3 o3 c3 : Nat) (s old new : ByteArray) (n : Int) (w : World) (r1 : Row w b1 o1 s) (r2 : Row w b2 o2 old) (r3 : Row w b3 o3 new) (hcap : s.size ≤ c1)
    (hs : s.size ≤ 1048576) (hz : old.size ≤ 1048576) (hnew : new.size ≤ 1048576) (h1 : 1 ≤ old.size) (hn0 : n ≠ 0) (hc0 : Lib.countB s old ≠ 0) (hlen : s.size + Lib.countB s old * new.size ≤ 70368744177664) :
    Calls Tryd.prog 57 #[.slice (some ⟨b1, o1, none⟩) s.size c1, .slice (some ⟨b2, o2, none⟩) old.size c2, .slice (some ⟨b3, o3, none⟩) new.size c3, .int .i64 n] w
      (RetRow w ⟨(Lib.replaceK old.data.toList new.data.toList (Lib.replaceNum s.data.toList old.data.toList n) s.data.toList).toArray⟩) := by
  have hC : Calls Tryd.prog 92 #[.slice (some ⟨b1, o1, none⟩) s.size c1, .slice (some ⟨b2, o2, none⟩) old.size c2] w fun e w' => e = .returned (.int .i64 (Lib.countB s old : Int)) ∧ Below w.heap.size w w' := by
    rw [← cntB_more s old h1]
    exact gbCount _ _ _ _ _ _ s old (by omega) (by omega) w r1 r2 hcap
  have hmul := Lib.countB_mul_le old h1 s.size s (Nat.le_refl _)
  obtain ⟨K, hK⟩ : ∃ K : Nat, Lib.replaceNum s.data.toList old.data.toList n = K := ⟨_, rfl⟩
  rw [hK]
  obtain ⟨cn, hcn⟩ : ∃ cn : Nat, Lib.countB s old = cn := ⟨_, rfl⟩
  rw [hcn] at hC hlen hc0 hmul
  have hcn' : Lib.count s.data.toList old.data.toList = cn := hcn
  have hnz : (n == 0) = false := beq_eq_false_iff_ne.2 hn0
  have hcz : ((cn : Int) == 0) = false := beq_eq_false_iff_ne.2 (by omega)
  have ho0 : (0 : Int) < (old.size : Int) := by omega
  have hlenL : s.data.toList.length = s.size := (Lib.size_eq s).symm
  have hlenO : old.data.toList.length = old.size := (Lib.size_eq old).symm
  have hlenN : new.data.toList.length = new.size := (Lib.size_eq new).symm
  have hK1 : 1 ≤ K ∧ K ≤ cn ∧ ((n < 0 ∨ (cn : Int) < n) → K = cn) ∧ (¬ (n < 0 ∨ (cn : Int) < n) → n = (K : Int)) := by
    unfold Lib.replaceNum at hK
    rw [hcn'] at hK
    by_cases hcase : n < 0 ∨ (cn : Int) < n
    · rw [if_pos hcase] at hK
      exact ⟨by omega, by omega, fun _ => hK.symm, fun h => absurd hcase h⟩
    · rw [if_neg hcase] at hK
      exact ⟨by omega, by omega, fun h => absurd h hcase, fun _ => by omega⟩
  obtain ⟨hK1, hKc, hKa, hKb⟩ := hK1
  have hKo : K * old.size ≤ s.size := Nat.le_trans (Nat.mul_le_mul_right _ hKc) hmul
  have hKs : K ≤ s.size := Nat.le_trans (Nat.le_mul_of_pos_right K (by omega)) hKo
  have hKn : s.size + K * new.size ≤ 70368744177664 := by have := Nat.mul_le_mul_right new.size hKc; omega
  have hga := Lib.grow_arg s.size K new.size old.size hK1 hKo (by omega)
  have hKcount : K ≤ Lib.count s.data.toList old.data.toList := by rw [hcn']; exact hKc
  have hON : old.data.toList ≠ [] := fun e => by rw [e] at hlenO; simp at hlenO; omega
  have htl := replaceK_len old.data.toList new.data.toList hON K s.data.toList hKcount
  rw [hlenL, hlenO, hlenN] at htl
  obtain ⟨tot, htot⟩ : ∃ tot, Lib.replaceK old.data.toList new.data.toList K s.data.toList = tot := ⟨_, rfl⟩
  rw [htot] at htl ⊢
  obtain ⟨N, hN⟩ : ∃ N : Nat, s.size + K * new.size - K * old.size = N := ⟨_, rfl⟩
  rw [hN, show wrap64 ((new.size : Int) - (old.size : Int)) = (new.size : Int) - (old.size : Int) from IntWalk.wrap64_in _ ⟨by omega, by omega⟩] at hga
  have hNt : tot.length = N := by omega
  have HNT := Lib.hid hNt
  have hNb : N ≤ 70368744177664 := by omega
  have HON := Lib.hid hON
  have HTOT := Lib.hid htot
  have HKC := Lib.hid hKcount
  have R1 := Lib.hid r1
  have R2 := Lib.hid r2
  have R3 := Lib.hid r3
  clear hK hcn hcn' hmul hlen htl hN hNt hON htot hKcount r1 r2 r3
  have hdisj : (K = cn ∧ (n < 0 ∨ (cn : Int) < n)) ∨ (n = (K : Int) ∧ ¬ (n < 0 ∨ (cn : Int) < n)) := by
    by_cases hcase : n < 0 ∨ (cn : Int) < n
    · exact Or.inl ⟨hKa hcase, hcase⟩
    · exact Or.inr ⟨hKb hcase, hcase⟩
  clear hKa hKb
  have hod : decide (0 < old.size) = true := decide_eq_true (by omega)
  have hkd : decide ((K : Int) < 0) = false := decide_eq_false (by omega)
  have hkd2 : decide (cn < K) = false := decide_eq_false (by omega)
  have hmk : ∀ u : World, (Instr.makeSlice 24 (.int .i64 (N : Int)) (.int .i64 (N : Int))).run Tryd.prog u =
      .ok (.slice (some ⟨u.heap.size, 0, none⟩) N N) (u.alloc (.cells (madeCells #[.int .u8 0] N) 5)) := fun u => by
    obtain ⟨i0, hi, hz0, hz1, hz2⟩ := info_parts info8
    have h := run_make (P := Tryd.prog) u 24 5 i0 (.int .u8 0) Tryd.underlying24 hi hz0 .i64 .i64 (N : Int) (N : Int) (by omega) (Int.le_refl _) (by rw [hz2]; omega) (by omega)
    simpa [hz1, Value.cells] using h
  rcases hdisj with ⟨rfl, hcase⟩ | ⟨rfl, hcase⟩
  all_goals (
    go_enter Tryd.func57, Tryd.ntmps57
    go_wp2_with (first | (go_at_call 92; refine hC.mono ?_; rintro e wc ⟨rfl, hBc⟩)))
  all_goals (
    clear hC
    try rw [hga]
    have hbw : Below w.heap.size w wc := hBc
    have HBW := Lib.hid hbw
    have RC1 := Lib.hid (R1.out.later hbw)
    have RC2 := Lib.hid (R2.out.later hbw)
    have RC3 := Lib.hid (R3.out.later hbw)
    clear hBc hbw
    go_wp2_with fail
    clear hmk
    have HB0 : Hid (Buf wc (wc.alloc (.cells (madeCells #[.int .u8 0] N) 5)) wc.heap.size N []) := by
      have := Buf.start wc (madeCells #[.int .u8 0] N) 5 N 0 (by simp [madeCells])
      exact Lib.hid ⟨⟨this.below.os, this.below.tape, this.below.output, this.below.size, this.below.block⟩, this.there, this.free, this.holds, this.fits⟩
    generalize wc.alloc (.cells (madeCells #[.int .u8 0] N) 5) = w1 at *
    generalize hh : wc.heap.size = h at *
    clear hga
    go_loopg [11, 12, 13, 49] K (fun g s11 s12 _ s49 wx => ∃ (i start : Nat) (acc : List UInt8), s49 = .int .i64 i ∧ s12 = .int .i64 start ∧ s11 = .int .i64 acc.length ∧ i + g = K ∧ start ≤ s.size ∧
      Hid (Buf wc wx h N acc) ∧ Hid (acc ++ Lib.replaceK old.data.toList new.data.toList g (s.data.toList.drop start) = tot) ∧ Hid (g ≤ Lib.count (s.data.toList.drop start) old.data.toList) ∧ acc.length ≤ N)
    case atStart => exact ⟨0, 0, [], rfl, rfl, rfl, by omega, Nat.zero_le _, HB0, by rw [List.drop_zero]; exact HTOT, by rw [List.drop_zero]; exact HKC, Nat.zero_le _⟩
    case round =>
      obtain ⟨i, start, acc, rfl, rfl, rfl, hig, hst, HB, HR, hgc, hbd⟩ := hrel
      cases gk with
      | zero =>
        have hiK : ¬ ((i : Int) < (K : Int)) := by omega
        have hT1 : ∀ W, (Instr.slice 24 (.slice (some ⟨h, 0, none⟩) N N) (some (.int .i64 (acc.length : Int))) none none).run Tryd.prog W = .ok (Lib.tailV h N acc.length) W := fun W => Lib.run_slice_tailV W 24 5 Tryd.underlying24 (fun w => by kernel_rfl) h N acc.length hbd
        have hS1 : ∀ W, (Instr.slice 24 (.slice (some ⟨b1, o1, none⟩) s.size c1) (some (.int .i64 (start : Int))) none none).run Tryd.prog W = .ok (subV b1 o1 c1 start s.size) W := fun W => run_sub_l W b1 o1 s.size c1 start hst
        have hfin : acc ++ s.data.toList.drop start = tot := HR.out
        have hHB := holds_sub (c := c1) RC1.out hcap start s.size hst (Nat.le_refl _)
        rw [List.take_of_length_le (by rw [List.length_drop, hlenL]; exact Nat.le_refl _)] at hHB
        generalize s.data.toList.drop start = pc at *
        generalize subV b1 o1 c1 start s.size = sv at *
        have hsum : acc.length + pc.length = N := by rw [← HNT.out, ← hfin, List.length_append]
        have hR1 : ∀ W, (Instr.slice 24 (.slice (some ⟨h, 0, none⟩) N N) (some (.int .i64 0)) (some (.int .i64 ((acc.length : Int) + (pc.length : Int)))) none).run Tryd.prog W = .ok (.slice (some ⟨h, 0, none⟩) N N) W := fun W => by
          have := run_sub_lh W h 0 N N 0 N (Nat.zero_le _) (Nat.le_refl _)
          rw [show ((acc.length : Int) + (pc.length : Int)) = ((N : Nat) : Int) by omega]
          simpa [subV] using this
        obtain ⟨w2, hr2, B2⟩ := Lib.copy_part (P := Tryd.prog) wc wr.drew h N acc pc sv 24 3 5 Tryd.underlying24 (by kernel_rfl) (by omega) (bufDrewN HB.out 1) hHB (by omega)
        rw [hfin] at B2
        have B2H := Lib.hid B2
        have hwr : IntKind.i64.wrap ((acc.length : Int) + (pc.length : Int)) = (acc.length : Int) + (pc.length : Int) := IntWalk.i64_in _ (by omega)
        have hs2 : (acc.length : Int) + (pc.length : Int) ≤ 140737488355328 := by omega
        clear B2 hHB hfin HR hgc
        go_wp2_with fail
        go_region_held3 (fun w' => True) (trivial) (fail)
        go_wp2_with fail
        go_ret
        have hRs : (⟨tot.toArray⟩ : ByteArray).size = N := by show tot.toArray.size = N; rw [List.size_toArray]; exact HNT.out
        refine ⟨some ⟨h, 0, none⟩, N, by rw [hRs]; rfl, by rw [hRs]; exact Nat.le_refl _, by unfold maxLen; omega, fun h => (by cases h), fun a ha => ?_, HBW.out.trans (B2H.out.below.mono (by have := HBW.out.size; omega))⟩
        cases ha
        exact ⟨h, 0, rfl, buf_row (R := ⟨tot.toArray⟩) (by simpa using B2H.out)⟩
      | succ g =>
        have hiK : (i : Int) < (K : Int) := by omega
        obtain ⟨j, hj⟩ := Lib.index_of_count (s := s.data.toList.drop start) (old := old.data.toList) (by have := hgc.out; omega)
        have hroom : j + old.size ≤ s.size - start := by
          have := Lib.index_room (s.data.toList.drop start) old.data.toList (by rw [hj]; omega)
          rw [hj, List.length_drop, hlenL, hlenO] at this
          omega
        have hrep : (acc ++ (s.data.toList.drop start).take j ++ new.data.toList) ++ Lib.replaceK old.data.toList new.data.toList g (s.data.toList.drop (start + j + old.size)) = tot := by
          rw [← HR.out, Lib.replaceK_hit _ _ g _ j hj, List.drop_drop, hlenO]
          simp only [List.append_assoc, Nat.add_assoc]
        have hcnt : g ≤ Lib.count (s.data.toList.drop (start + j + old.size)) old.data.toList := by
          have h2 := hgc.out
          have := Lib.count_hit (s := s.data.toList.drop start) (sub := old.data.toList) (i := j) HON.out hj
          rw [List.drop_drop, hlenO] at this
          rw [show start + j + old.size = start + (j + old.size) by omega]
          omega
        have HI : Hid (Calls Tryd.prog 93 #[subV b1 o1 c1 start s.size, .slice (some ⟨b2, o2, none⟩) old.size c2] wr fun e w' => e = .returned (.int .i64 (j : Int)) ∧ Buf wc w' h N acc) := Lib.hid (by
          have hsz : (s.extract start s.size).size = s.size - start := by rw [ByteArray.size_extract]; omega
          have hbl : Below wc.heap.size wc wr := by rw [hh]; exact HB.out.below
          have hc := indexRow b1 (if c1 = start then o1 else o1 + start) (c1 - start) b2 o2 c2 (s.extract start s.size) old wr (by omega) (by omega) (row_sub (RC1.out.later hbl) hcap start s.size (Nat.le_refl _)) (RC2.out.later hbl) (by omega)
          rw [Lib.extract_to_end, hj, hsz] at hc
          refine hc.mono ?_
          rintro e w' ⟨he, q, rfl⟩
          exact ⟨he, bufDrewN HB.out q⟩)
        have hHB1 := holds_sub (c := c1) RC1.out hcap start (start + j) (by omega) (by omega)
        rw [Nat.add_sub_cancel_left] at hHB1
        have hHB3 := holds_row RC3.out c3
        have hS1 : ∀ W, (Instr.slice 24 (.slice (some ⟨b1, o1, none⟩) s.size c1) (some (.int .i64 (start : Int))) none none).run Tryd.prog W = .ok (subV b1 o1 c1 start s.size) W := fun W => run_sub_l W b1 o1 s.size c1 start hst
        have hS2 : ∀ W, (Instr.slice 24 (.slice (some ⟨b1, o1, none⟩) s.size c1) (some (.int .i64 (start : Int))) (some (.int .i64 ((start : Int) + (j : Int)))) none).run Tryd.prog W = .ok (subV b1 o1 c1 start (start + j)) W := fun W => by
          have := run_sub_lh W b1 o1 s.size c1 start (start + j) (by omega) (by omega)
          rwa [Int.natCast_add] at this
        have hT1 : ∀ W, (Instr.slice 24 (.slice (some ⟨h, 0, none⟩) N N) (some (.int .i64 (acc.length : Int))) none none).run Tryd.prog W = .ok (Lib.tailV h N acc.length) W := fun W => Lib.run_slice_tailV W 24 5 Tryd.underlying24 (fun w => by kernel_rfl) h N acc.length hbd
        have htl : ((s.data.toList.drop start).take j).length = j := by rw [List.length_take, List.length_drop, hlenL]; omega
        generalize (s.data.toList.drop start).take j = pc at *
        generalize subV b1 o1 c1 start s.size = sv1 at *
        generalize subV b1 o1 c1 start (start + j) = sv2 at *
        have hbnd : acc.length + pc.length + new.size ≤ N := by
          have := congrArg List.length hrep
          rw [HNT.out] at this
          simp only [List.length_append, hlenN] at this
          omega
        have hT2 : ∀ W, (Instr.slice 24 (.slice (some ⟨h, 0, none⟩) N N) (some (.int .i64 ((acc.length : Int) + (pc.length : Int)))) none none).run Tryd.prog W = .ok (Lib.tailV h N (acc.length + pc.length)) W := fun W => by
          have := Lib.run_slice_tailV W 24 5 Tryd.underlying24 (fun w => by kernel_rfl) h N (acc.length + pc.length) (by omega)
          rwa [Int.natCast_add] at this
        have hwr : IntKind.i64.wrap ((acc.length : Int) + (pc.length : Int)) = (acc.length : Int) + (pc.length : Int) := IntWalk.i64_in _ (by omega)
        have hs2 : (acc.length : Int) + (pc.length : Int) ≤ 140737488355328 := by omega
        have hs3 : (acc.length : Int) + (pc.length : Int) + (new.size : Int) ≤ 140737488355328 := by omega
        have HREP := Lib.hid hrep
        have HCNT := Lib.hid hcnt
        have HTL := Lib.hid htl
        have HB1 := Lib.hid hHB1
        have HB3 := Lib.hid hHB3
        have c4 : (start : Int) + (j : Int) + (old.size : Int) ≤ (s.size : Int) := by omega
        clear hrep hcnt hj hHB1 hHB3 HR hgc htl
        go_wp2_with (go_at_call 93; refine HI.out.mono ?_; rintro e wi ⟨rfl, hBi⟩; obtain ⟨w2, hr2, B2⟩ := Lib.copy_part (P := Tryd.prog) wc wi.drew h N acc pc sv2 24 3 5 Tryd.underlying24 (by kernel_rfl) (by omega) (bufDrewN hBi 1) HB1.out (by omega); obtain ⟨w3, hr3, B3⟩ := Lib.copy_part (P := Tryd.prog) wc w2 h N (acc ++ pc) new.data.toList (.slice (some ⟨b3, o3, none⟩) new.size c3) 24 3 5 Tryd.underlying24 (by kernel_rfl) (by omega) B2 HB3.out (by rw [List.length_append, hlenN]; omega); rw [List.length_append, hlenN] at hr3; have B3H := Lib.hid B3; clear B2 B3 hBi)
        go_region_held3 (fun w' => True) (trivial) (fail)
        go_wp2_with fail
        go_roundg g
        case measure => omega
        case rel =>
          have e1 := HTL.out
          refine ⟨i + 1, start + j + old.size, acc ++ pc ++ new.data.toList, by go_num, by go_num, ?_, by omega, by omega, B3H, HREP, HCNT, by rw [List.length_append, List.length_append, hlenN]; omega⟩
          rw [List.length_append, List.length_append, hlenN]
          go_num)
end Go.Proofs.YthnbifkcbeldmaaDoor
