/- (*byteStringReplacer) writes to a sink. -/
import Derived.Test.YtlhlehmmaoadgaaBsRepl
import Derived.Test.YtlhlehmmaoadgaaByteW
import Derived.Test.YtlhlehmmaoadgaaSglW
import Derived.IntWalk
namespace Go.Proofs.Ytlhlehmmaoadgaa
open Go.RowKit Go.Lib
set_option linter.unusedVariables false
/-- what holds in all worlds that agree on a range says of a block that it lies in the range -/
theorem in_range {lo B rb o : Nat} {w : World} (h : ∀ w2, AgreeOn lo B w w2 → ∃ v, w2.cell? ⟨rb, o, none⟩ = some v) : lo ≤ rb ∧ rb < B := by
  apply Classical.byContradiction
  intro hn
  obtain ⟨v, hv⟩ := h w (fun _ _ _ => rfl)
  have hlt : rb < w.heap.size := cell_lt hv
  obtain ⟨v2, hv2⟩ := h { w with heap := w.heap.setIfInBounds rb (.cells #[] 0 (0, 0)) } (fun x h1 h2 => by
    have : rb ≠ x := fun e => hn (by omega)
    simp [this])
  have hb : ({ w with heap := w.heap.setIfInBounds rb (.cells #[] 0 (0, 0)) } : World).heap[rb]? = some (.cells #[] 0 (0, 0)) := by
    simp [hlt]
  have hc := Lib.cell_of_heap hb o
  rw [hc] at hv2
  simp at hv2
theorem bs_all {lo B rb : Nat} {l : List ByteArray} {w wr : World} (hK : ∀ w2, AgreeOn lo B w w2 → ∃ F a ks, BsAt w2 rb F a ks ∧ ∀ t, rep (prs l) true t = outF F t) (hwr : AgreeOn lo B w wr) {F : UInt8 → Option (List UInt8)} {a : Option Addr} {ks : List UInt8}
    (h : BsAt wr rb F a ks) (hf : ∀ t, rep (prs l) true t = outF F t) (c : UInt8) (t : List UInt8) (hF : F c = some t) :
    ∃ (y : Addr) (capy : Nat), ∀ w2, AgreeOn lo B w w2 → w2.cell? ⟨rb, c.toNat, none⟩ = some (.slice (some y) t.length capy) ∧ ∀ j u, (byteCells t)[j]? = some u → w2.cell? (y.add j) = some u := by
  obtain ⟨i1, i2⟩ : lo ≤ rb ∧ rb < B := in_range (o := 256) (w := w) (fun w2 ha => by
    obtain ⟨_, _, _, h2, _⟩ := hK w2 ha
    obtain ⟨cap, hc⟩ := h2.list
    exact ⟨_, hc⟩)
  obtain ⟨y, cap, hc, _⟩ := h.yes c t hF
  have hone : ∀ F', (∀ t, rep (prs l) true t = outF F' t) → tabF F' c = t := fun F' h' => by
    have e := (h' [c]).symm.trans (hf [c])
    have e2 : tabF F c = t := by unfold tabF; rw [hF]; rfl
    rw [← e2]
    simpa [outF] using e
  refine ⟨y, cap, fun w2 ha => ?_⟩
  have hc2 : w2.cell? ⟨rb, c.toNat, none⟩ = some (.slice (some y) t.length cap) := ((ha.cell i1 i2).trans (hwr.cell i1 i2).symm).trans hc
  refine ⟨hc2, fun j u hu => ?_⟩
  obtain ⟨F2, a2, ks2, h2, hf2⟩ := hK w2 ha
  cases hF2 : F2 c with
  | none =>
    have := h2.no c hF2
    rw [hc2] at this
    cases this
  | some t2 =>
    have e : t2 = t := by
      have := hone F2 hf2
      unfold tabF at this
      rw [hF2] at this
      exact this
    subst e
    obtain ⟨x2, cap2, hx, hb⟩ := h2.yes c t2 hF2
    rw [hc2] at hx
    injection hx with hx
    injection hx with hx
    injection hx with hx
    subst hx
    simp [byteCells] at hu
    obtain ⟨z, hz, rfl⟩ := hu
    exact hb j z hz
set_option maxHeartbeats 6400000 in
set_option maxRecDepth 100000 in
theorem bytesWriteSnk (rb B q lo : Nat) (l : List ByteArray) (s : ByteArray) (w : World) (hq : q < lo) (hs : s.size < 2147483648) (hK : ∀ w2, AgreeOn lo B w w2 → ∃ F a ks, BsAt w2 rb F a ks ∧ ∀ t, rep (prs l) true t = outF F t) (hA : Snk w B q []) (hBw : B ≤ w.heap.size)
    (hout : (rep (prs l) true s.data.toList).length ≤ 35184372088832) :
    Calls Try.prog 57 #[.pointer (some ⟨rb, 0, none⟩), .iface 31 (.pointer (some ⟨q, 0, none⟩)), .string s] w (WsPost w B q (rep (prs l) true s.data.toList)) := by
  have q44 : ∀ (w : World) (a : Option Addr) (n c n' c' : Nat), (binOp .eql 32 (.slice a n c) (.slice none n' c')).run Try.prog w = .ok (.bool a.isNone) w := fun w a n c n' c' => Lib.run_eql_slice_nil w _ _ a n c n' c' Try.underlying32
  have hah := aheadSw
  have hmt := methSw
  have hah2 := aheadSink
  have hmt2 := methSink
  have hmf : ∀ (fn : Fn) (first cap : Array Value) (w : World), (Instr.makeFunc fn first cap).run Try.prog w = .ok (.func fn first cap) w := fun _ _ _ _ => rfl
  have hnot : ∀ (x : Bool) (w : World), (Op.unary .not (.bool x)).run Try.prog w = .ok (.bool (!x)) w := fun _ _ => rfl
  have HK := Lib.hid hK
  have HO := Lib.hid hout
  have HA0 := Lib.hid hA
  have HSL := Lib.hid (show s.data.toList.length = s.size by simp)
  clear hK hout hA
  go_enter Try.func57, Try.ntmps57
  go_wp2_with (go_at_call 46; refine (getSwSnk q _).mono ?_; rintro e w' ⟨rfl, rfl⟩)
  go_loopw [6, 7, 9, 10] (ZwRel w B q l s) (fun _ _ _ vi _ => s.size - (RowKit.intOf vi).toNat)
  case atStart => exact ⟨0, 0, [], rfl, rfl, rfl, rfl, Nat.le_refl _, Nat.zero_le _, HA0.out, Bex.refl _ _ _, by simp⟩
  case round =>
    clear HA0
    obtain ⟨i, last, acc, rfl, rfl, rfl, rfl, hli, hi, hsnk, hB, hacc⟩ := hrel
    have HA := Lib.hid hsnk
    have HB := Lib.hid hB
    have hBs : B ≤ wr.heap.size := Nat.le_trans hBw hB.size
    clear hsnk
    by_cases hlt : i < s.size
    · have i1 : (i : Int) < s.size := by omega
      have i5 : (s[i].toNat : Int) < 256 := by have := s[i].toNat_lt; omega
      have HAG := Lib.hid (hB.agree hq)
      obtain ⟨F, a, ks, hA1, hf⟩ := HK.out _ (hB.agree hq)
      have hrep0 : rep (prs l) true (s.data.toList.drop i) = tabF F s[i] ++ rep (prs l) true (s.data.toList.drop (i + 1)) := by rw [drop_at hlt, hf, hf]; rfl
      clear hB
      cases hF : F s[i] with
      | none =>
        have hcy := hA1.no _ hF
        have hrep : rep (prs l) true (s.data.toList.drop i) = s[i] :: rep (prs l) true (s.data.toList.drop (i + 1)) := by
          rw [hrep0]; unfold tabF; rw [hF]; rfl
        clear hA1 hf hrep0 hF
        have HSK := Lib.hid (zw_skip hli hlt hrep hacc)
        clear hrep hacc
        go_wp2_with fail
        go_roundw
        case rel => exact ⟨i + 1, last, acc, rfl, rfl, rfl, by push_cast; rfl, by omega, by omega, HA.out, HB.out, HSK.out⟩
        case measure => (simp [RowKit.intOf]; try omega)
      | some t =>
        obtain ⟨y, capy, hall⟩ := bs_all HK.out HAG.out hA1 hf s[i] t hF
        have hcy := (hall _ HAG.out).1
        have hrep : rep (prs l) true (s.data.toList.drop i) = t ++ rep (prs l) true (s.data.toList.drop (i + 1)) := by
          rw [hrep0]; unfold tabF; rw [hF]; rfl
        have HT1 : Hid (∀ w2, AgreeOn lo B w w2 → w2.cell? ⟨rb, s[i].toNat, none⟩ = some (.slice (some y) t.length capy)) := Lib.hid (fun w2 ha => (hall w2 ha).1)
        have HHB : Hid (∀ w2, AgreeOn lo B w w2 → ∀ j u, (byteCells t)[j]? = some u → w2.cell? (y.add j) = some u) := Lib.hid (fun w2 ha => (hall w2 ha).2)
        clear hA1 hf hrep0 hF hall
        obtain ⟨m, hm, hmz, hmd⟩ := mid_text s last i hli hi
        have hmid := cutMid s last i hli hi
        rw [← hm] at hmid
        have hli' : (last : Int) ≤ (i : Int) := by omega
        have hi' : (i : Int) ≤ (s.size : Int) := by omega
        by_cases hle : last = i
        · have hle0 : i - last = 0 := by omega
          have ln1 : ((last : Int) != (i : Int)) = false := by rw [hle]; simp
          have hfin : acc ++ t ++ rep (prs l) true (s.data.toList.drop (i + 1)) = rep (prs l) true s.data.toList := by
            rw [← hacc, hrep, hle0, List.take_zero, List.append_nil]
            simp only [List.append_assoc]
          have HREL : Hid (∀ w', Snk w' B q (acc ++ t) → Bex B q w w' → ZwRel w B q l s (.int .i64 ((acc.length : Int) + (t.length : Int))) .nilIface (.int .i64 ((i : Int) + 1)) (.int .i64 ((i : Int) + 1)) w') := Lib.hid (fun w' a1 a2 =>
            ⟨i + 1, i + 1, _, (by simp only [List.length_append]; push_cast; first | rfl | (congr 1; omega)), rfl, by push_cast; rfl, by push_cast; rfl, Nat.le_refl _, by omega, a1, a2, by rw [Nat.sub_self, List.take_zero, List.append_nil]; exact hfin⟩)
          have hlen : acc.length + t.length ≤ 35184372088832 := by
            have := HO.out
            rw [← hfin] at this
            simp only [List.length_append] at this
            omega
          clear hfin
          have hb8 : acc.length + t.length ≤ 140737488355328 := by omega
          have hb8i : (acc.length : Int) + (t.length : Int) ≤ 140737488355328 := by omega
          clear hrep hacc hm hmz hmd hmid hle hle0
          go_wp2_with fail
          have hnB : B ≤ wr.heap.size := Nat.le_trans hBw HB.out.size
          have hcw := HT1.out _ (HB.out.agree hq)
          have hC0 : ∀ j u, (byteCells t)[j]? = some u → wr.cell? ((y : Addr).add j) = some u := (HHB.out _ (HB.out.agree hq))
          have HC0 := Lib.hid hC0
          clear hC0
          go_region_held3 (fun w' => w'.cell? ⟨rb, s[i].toNat, none⟩ = some (.slice (some y) t.length capy)) (go_keep) ((go_at_call 39; refine (sinkWrite B q acc t y t.length _ _ rfl (HA.out.drewN _) HC0.out hb8 hnB).mono ?_; rintro e w8 ⟨rfl, hA8, hB8⟩; have c8 := HT1.out _ (((bex_drewN HB.out _).trans hB8).agree hq)))
          have HW8 := Lib.hid ((bex_drewN HB.out _).trans hB8)
          have HA8 := Lib.hid hA8
          clear hA8 hB8
          go_wp2_with fail
          go_roundw
          case rel => exact HREL.out _ (by have h := HA8.out; simpa [List.append_assoc] using h) HW8.out
          case measure => (simp [RowKit.intOf]; try omega)
        · have ln1 : ((last : Int) != (i : Int)) = true := bne_iff_ne.2 (by omega)
          have hfin : acc ++ m.data.toList ++ t ++ rep (prs l) true (s.data.toList.drop (i + 1)) = rep (prs l) true s.data.toList := by
            rw [← hacc, hrep, ← hmd]
            simp only [List.append_assoc]
          have HREL : Hid (∀ w', Snk w' B q (acc ++ m.data.toList ++ t) → Bex B q w w' → ZwRel w B q l s (.int .i64 ((acc.length : Int) + (m.size : Int) + (t.length : Int))) .nilIface (.int .i64 ((i : Int) + 1)) (.int .i64 ((i : Int) + 1)) w') := Lib.hid (fun w' a1 a2 =>
            ⟨i + 1, i + 1, _, (by simp only [List.length_append, show m.data.toList.length = m.size by simp]; push_cast; first | rfl | (congr 1; omega)), rfl, by push_cast; rfl, by push_cast; rfl, Nat.le_refl _, by omega, a1, a2, by rw [Nat.sub_self, List.take_zero, List.append_nil]; exact hfin⟩)
          have hlen : acc.length + m.size + t.length ≤ 35184372088832 := by
            have := HO.out
            rw [← hfin] at this
            simp only [List.length_append, show m.data.toList.length = m.size by simp] at this
            omega
          clear hfin
          have hbu : acc.length + m.size ≤ 140737488355328 := by omega
          have hbui : (acc.length : Int) + m.size ≤ 140737488355328 := by omega
          have hb8 : (acc ++ m.data.toList).length + t.length ≤ 140737488355328 := by
            rw [List.length_append, show m.data.toList.length = m.size by simp]; omega
          have hb8i : (acc.length : Int) + m.size + (t.length : Int) ≤ 140737488355328 := by omega
          clear hrep hacc hm hmz hmd hle
          go_wp2_with fail
          go_region_held3 (fun w' => True) (trivial) ((go_at_call 62; refine (swWrite B q acc m _ (HA.out.drewN _) hbu hBs).mono ?_; rintro e w5 ⟨rfl, hA5, hB5⟩))
          have HW5 := Lib.hid ((bex_drewN HB.out _).trans hB5)
          have HA5 := Lib.hid hA5
          clear hA5 hB5 hmid
          go_wp2_with fail
          have hnB : B ≤ w5.heap.size := Nat.le_trans hBw HW5.out.size
          have hcw := HT1.out _ (HW5.out.agree hq)
          have hC0 : ∀ j u, (byteCells t)[j]? = some u → w5.cell? ((y : Addr).add j) = some u := (HHB.out _ (HW5.out.agree hq))
          have HC0 := Lib.hid hC0
          clear hC0
          go_region_held3 (fun w' => w'.cell? ⟨rb, s[i].toNat, none⟩ = some (.slice (some y) t.length capy)) (go_keep) ((go_at_call 39; refine (sinkWrite B q (acc ++ m.data.toList) t y t.length _ _ rfl (HA5.out.drewN _) HC0.out hb8 hnB).mono ?_; rintro e w8 ⟨rfl, hA8, hB8⟩; have c8 := HT1.out _ (((bex_drewN HW5.out _).trans hB8).agree hq)))
          have HW8 := Lib.hid ((bex_drewN HW5.out _).trans hB8)
          have HA8 := Lib.hid hA8
          clear hA8 hB8
          go_wp2_with fail
          go_roundw
          case rel => exact HREL.out _ (by have h := HA8.out; simpa [List.append_assoc] using h) HW8.out
          case measure => (simp [RowKit.intOf]; try omega)
    · have i1 : ¬ (i : Int) < s.size := by omega
      obtain rfl : i = s.size := by omega
      have hrep : rep (prs l) true (s.data.toList.drop s.size) = [] := by
        obtain ⟨F, a, ks, _, hf⟩ := HK.out _ (hB.agree hq)
        rw [hf, List.drop_eq_nil_of_le (Nat.le_of_eq HSL.out)]; rfl
      rw [hrep, List.append_nil] at hacc
      clear hrep hB
      by_cases hle : last = s.size
      · have ln1 : ((last : Int) != (s.size : Int)) = false := by rw [hle]; simp
        have hfin : acc = rep (prs l) true s.data.toList := by rw [← hacc, hle, Nat.sub_self, List.take_zero, List.append_nil]
        have HF := Lib.hid hfin
        clear hfin hacc hle
        go_wp2_with fail
        go_ret2
        rw [← HF.out]
        exact ⟨rfl, HA.out, HB.out⟩
      · have ln1 : ((last : Int) != (s.size : Int)) = true := bne_iff_ne.2 (by omega)
        have hcut := cutTail s last hli
        have hsd : (s.extract last s.size).data.toList = s.data.toList.drop last := by rw [Lib.extract_to_end]
        obtain ⟨m, hm⟩ : ∃ m, m = s.extract last s.size := ⟨_, rfl⟩
        rw [← hm] at hcut hsd
        have hmz : m.size = s.size - last := by rw [hm]; simp
        have hfin : acc ++ m.data.toList = rep (prs l) true s.data.toList := by
          rw [← hacc, hsd, List.take_of_length_le (by rw [List.length_drop, HSL.out]; exact Nat.le_refl _)]
        have hlen : acc.length + m.size ≤ 35184372088832 := by
          have := HO.out
          rw [← hfin, List.length_append, show m.data.toList.length = m.size by simp] at this
          exact this
        have hbu : acc.length + m.size ≤ 140737488355328 := by omega
        have hbui : (acc.length : Int) + m.size ≤ 140737488355328 := by omega
        have HF := Lib.hid hfin
        clear hfin hacc hle hm hmz hsd hlen
        go_wp2_with fail
        go_region_held3 (fun w' => True) (trivial) ((go_at_call 62; refine (swWrite B q acc m _ (HA.out.drewN _) hbu hBs).mono ?_; rintro e w3 ⟨rfl, hA3, hB3⟩))
        go_wp2_with fail
        go_ret2
        rw [← HF.out]
        refine ⟨?_, hA3, (bex_drewN HB.out _).trans hB3⟩
        rw [List.length_append, show m.data.toList.length = m.size by simp]
        push_cast
        rfl
end Go.Proofs.Ytlhlehmmaoadgaa
