/- (*byteReplacer) writes to a sink. -/
import Derived.Test.YtlhlehmmaoadgaaByteRepl
import Derived.Test.YtlhlehmmaoadgaaMkB
import Derived.Test.YtlhlehmmaoadgaaSglW
import Derived.IntWalk
namespace Go.Proofs.Ytlhlehmmaoadgaa
open Go.RowKit Go.Lib
set_option linter.unusedVariables false
/-- where the walk stands at a round's head -/
def ZwRel (w : World) (B q : Nat) (l : List ByteArray) (s : ByteArray) (v6 v7 v9 v10 : Value) (wr : World) : Prop :=
  ∃ (i last : Nat) (acc : List UInt8), v6 = .int .i64 (acc.length : Nat) ∧ v7 = .nilIface ∧ v9 = .int .i64 last ∧ v10 = .int .i64 i ∧ last ≤ i ∧ i ≤ s.size ∧ Snk wr B q acc ∧ Bex B q w wr ∧
    acc ++ (s.data.toList.drop last).take (i - last) ++ rep (prs l) true (s.data.toList.drop i) = rep (prs l) true s.data.toList
theorem zw_skip {l : List ByteArray} {s : ByteArray} {acc : List UInt8} {last i : Nat} (hli : last ≤ i) (hi : i < s.size) (hr : rep (prs l) true (s.data.toList.drop i) = s[i] :: rep (prs l) true (s.data.toList.drop (i + 1)))
    (h : acc ++ (s.data.toList.drop last).take (i - last) ++ rep (prs l) true (s.data.toList.drop i) = rep (prs l) true s.data.toList) :
    acc ++ (s.data.toList.drop last).take (i + 1 - last) ++ rep (prs l) true (s.data.toList.drop (i + 1)) = rep (prs l) true s.data.toList := by
  have hz : s.data.toList.length = s.size := by simp
  rw [← h, hr, show i + 1 - last = (i - last) + 1 by omega, List.take_succ_eq_append_getElem (by rw [List.length_drop, hz]; omega), List.getElem_drop]
  simp only [show last + (i - last) = i by omega, List.append_assoc, List.cons_append, List.nil_append]
  rfl
theorem mid_text (s : ByteArray) (last i : Nat) (hli : last ≤ i) (hi : i ≤ s.size) : ∃ m : ByteArray, m = s.extract last i ∧ m.size = i - last ∧ m.data.toList = (s.data.toList.drop last).take (i - last) :=
  ⟨_, rfl, by simp; omega, mid_data s last i hli hi⟩
theorem drop_at {s : ByteArray} {i : Nat} (hi : i < s.size) : s.data.toList.drop i = s[i] :: s.data.toList.drop (i + 1) := by
  have hil : i < s.data.toList.length := by simpa using hi
  rw [List.drop_eq_getElem_cons hil]
  rfl
theorem slice_tab (rb : Nat) (c : UInt8) (W : World) : (Instr.sliceAt 58 (.pointer (some ⟨rb, 0, none⟩)) (some (.int .u8 (c.toNat : Int))) (some (.int .i64 ((c.toNat : Int) + 1))) none).run Try.prog W = .ok (.slice (some ⟨rb, c.toNat, none⟩) 1 (256 - c.toNat)) W := by
  have h1 := c.toNat_lt
  have hn : Try.prog.arrayLen 58 = 256 := by kernel_rfl
  have he : Try.prog.elem 58 = 5 := by kernel_rfl
  have hu : Try.prog.underlying 58 = some (.array (Try.prog.arrayLen 58) (Try.prog.elem 58)) := by rw [hn, he]; exact Try.underlying58
  have hs : (sizeOf 5).run Try.prog W = .ok 1 W := by kernel_rfl
  have e1 : ((c.toNat : Int)).toNat = c.toNat := by omega
  have e2 : ((c.toNat : Int) + 1).toNat = c.toNat + 1 := by omega
  have e3 : ¬ (256 = c.toNat) := by omega
  rw [run_sliceAt_array_lh W _ _ hu .u8 .i64 _ _ (by omega) (by omega) (by rw [hn]; omega), he, hn, hs]
  show Result.ok (slicedAt _ _ _ _ _) W = _
  unfold slicedAt
  rw [e1, e2, if_neg e3, show (⟨rb, 0, none⟩ : Addr).add (c.toNat * 1) = ⟨rb, c.toNat, none⟩ by unfold Addr.add; split <;> simp_all, show c.toNat + 1 - c.toNat = 1 by omega]
set_option maxHeartbeats 6400000 in
set_option maxRecDepth 100000 in
theorem byteWriteSnk (rb B q lo : Nat) (l : List ByteArray) (s : ByteArray) (w : World) (hq : q < lo) (hs : s.size < 2147483648) (hK : ∀ w2, AgreeOn lo B w w2 → ∃ f, TabAt w2 rb f ∧ ∀ t, rep (prs l) true t = t.map f) (hA : Snk w B q []) (hBw : B ≤ w.heap.size)
    (hout : (rep (prs l) true s.data.toList).length ≤ 35184372088832) :
    Calls Try.prog 55 #[.pointer (some ⟨rb, 0, none⟩), .iface 31 (.pointer (some ⟨q, 0, none⟩)), .string s] w (WsPost w B q (rep (prs l) true s.data.toList)) := by
  have q44 : ∀ (w : World) (a : Option Addr) (n c n' c' : Nat), (binOp .eql 32 (.slice a n c) (.slice none n' c')).run Try.prog w = .ok (.bool a.isNone) w := fun w a n c n' c' => Lib.run_eql_slice_nil w _ _ a n c n' c' Try.underlying32
  have hah := aheadSw
  have hmt := methSw
  have hah2 := aheadSink
  have hmt2 := methSink
  have hmf : ∀ (fn : Fn) (first cap : Array Value) (w : World), (Instr.makeFunc fn first cap).run Try.prog w = .ok (.func fn first cap) w := fun _ _ _ _ => rfl
  have hnot : ∀ (x : Bool) (w : World), (Op.unary .not (.bool x)).run Try.prog w = .ok (.bool (!x)) w := fun _ _ => rfl
  have HK := Lib.hid hK
  have HO := Lib.hid hout
  have HA0 := Lib.hid hA
  have HSL := Lib.hid (show s.data.toList.length = s.size by simp)
  clear hK hout hA
  go_enter Try.func55, Try.ntmps55
  go_wp2_with (go_at_call 46; refine (getSwSnk q _).mono ?_; rintro e w' ⟨rfl, rfl⟩)
  go_loopw [6, 7, 9, 10] (ZwRel w B q l s) (fun _ _ _ vi _ => s.size - (RowKit.intOf vi).toNat)
  case atStart => exact ⟨0, 0, [], rfl, rfl, rfl, rfl, Nat.le_refl _, Nat.zero_le _, HA0.out, Bex.refl _ _ _, by simp⟩
  case round =>
    clear HA0
    obtain ⟨i, last, acc, rfl, rfl, rfl, rfl, hli, hi, hsnk, hB, hacc⟩ := hrel
    have HA := Lib.hid hsnk
    have HB := Lib.hid hB
    have hBs : B ≤ wr.heap.size := Nat.le_trans hBw hB.size
    clear hsnk
    by_cases hlt : i < s.size
    · have i1 : (i : Int) < s.size := by omega
      have i5 : (s[i].toNat : Int) < 256 := by have := s[i].toNat_lt; omega
      obtain ⟨f, hT, hf⟩ := HK.out _ (hB.agree hq)
      have hcy := hT s[i]
      have hrep : rep (prs l) true (s.data.toList.drop i) = f s[i] :: rep (prs l) true (s.data.toList.drop (i + 1)) := by rw [drop_at hlt, hf, hf]; rfl
      have HT1 : Hid (∀ w2, AgreeOn lo B w w2 → w2.cell? ⟨rb, s[i].toNat, none⟩ = some (.int .u8 ((f s[i]).toNat : Int))) := Lib.hid (fun w2 ha => by
        obtain ⟨f2, hT2, hf2⟩ := HK.out _ ha
        have e : f2 s[i] = f s[i] := by
          have e1 := (hf2 [s[i]]).symm.trans (hf [s[i]])
          simpa using e1
        rw [← e]
        exact hT2 s[i])
      clear hT hf
      clear hB
      by_cases he : f s[i] = s[i]
      · have he' : (((f s[i]).toNat : Int) == (s[i].toNat : Int)) = true := by rw [he]; simp
        rw [he] at hrep
        have HSK := Lib.hid (zw_skip hli hlt hrep hacc)
        clear hrep hacc
        go_wp2_with fail
        go_roundw
        case rel => exact ⟨i + 1, last, acc, rfl, rfl, rfl, by push_cast; rfl, by omega, by omega, HA.out, HB.out, HSK.out⟩
        case measure => (simp [RowKit.intOf]; try omega)
      · have he' : (((f s[i]).toNat : Int) == (s[i].toNat : Int)) = false := beq_eq_false_iff_ne.2 (fun e => he (UInt8.toNat_inj.1 (by omega)))
        have hwa : IntKind.i64.wrap (s[i].toNat : Int) = (s[i].toNat : Int) := IntWalk.i64_in _ (by have := s[i].toNat_lt; omega)
        have hwb : IntKind.i64.wrap ((s[i].toNat : Int) + 1) = (s[i].toNat : Int) + 1 := IntWalk.i64_in _ (by have := s[i].toNat_lt; omega)
        have hsl : ∀ W : World, (Instr.sliceAt 58 (.pointer (some ⟨rb, 0, none⟩)) (some (.int .u8 (s[i].toNat : Int))) (some (.int .i64 ((s[i].toNat : Int) + 1))) none).run Try.prog W = .ok (.slice (some ⟨rb, s[i].toNat, none⟩) 1 (256 - s[i].toNat)) W := fun W => slice_tab rb s[i] W
        clear he
        obtain ⟨m, hm, hmz, hmd⟩ := mid_text s last i hli hi
        have hmid := cutMid s last i hli hi
        rw [← hm] at hmid
        have hli' : (last : Int) ≤ (i : Int) := by omega
        have hi' : (i : Int) ≤ (s.size : Int) := by omega
        by_cases hle : last = i
        · have hle0 : i - last = 0 := by omega
          have ln1 : ((last : Int) != (i : Int)) = false := by rw [hle]; simp
          have hfin : acc ++ [f s[i]] ++ rep (prs l) true (s.data.toList.drop (i + 1)) = rep (prs l) true s.data.toList := by
            rw [← hacc, hrep, hle0, List.take_zero, List.append_nil]
            simp only [List.append_assoc, List.cons_append, List.nil_append]
          have HREL : Hid (∀ w', Snk w' B q (acc ++ [f s[i]]) → Bex B q w w' → ZwRel w B q l s (.int .i64 ((acc.length : Int) + 1)) .nilIface (.int .i64 ((i : Int) + 1)) (.int .i64 ((i : Int) + 1)) w') := Lib.hid (fun w' a1 a2 =>
            ⟨i + 1, i + 1, _, (by simp only [List.length_append, List.length_cons, List.length_nil]; push_cast; first | rfl | (congr 1; omega)), rfl, by push_cast; rfl, by push_cast; rfl, Nat.le_refl _, by omega, a1, a2, by rw [Nat.sub_self, List.take_zero, List.append_nil]; exact hfin⟩)
          have hlen : acc.length + 1 ≤ 35184372088832 := by
            have := HO.out
            rw [← hfin] at this
            simp only [List.length_append, List.length_cons, List.length_nil] at this
            omega
          clear hfin
          have hb8 : acc.length + 1 ≤ 140737488355328 := by omega
          have hb8i : (acc.length : Int) + 1 ≤ 140737488355328 := by omega
          clear hrep hacc hm hmz hmd hmid hle hle0
          go_wp2_with fail
          have hnB : B ≤ wr.heap.size := Nat.le_trans hBw HB.out.size
          have hcw := HT1.out _ (HB.out.agree hq)
          have hC0 : ∀ j u, (byteCells [f s[i]])[j]? = some u → wr.cell? ((⟨rb, s[i].toNat, none⟩ : Addr).add j) = some u := (fun j u hu => by
            cases j with
            | zero => simp [byteCells] at hu; subst hu; exact hcw
            | succ j => simp [byteCells] at hu)
          have HC0 := Lib.hid hC0
          clear hC0
          go_region_held3 (fun w' => True) (trivial) ((go_at_call 39; refine (sinkWrite B q acc [f s[i]] ⟨rb, s[i].toNat, none⟩ 1 _ _ rfl (HA.out.drewN _) HC0.out hb8 hnB).mono ?_; rintro e w8 ⟨rfl, hA8, hB8⟩))
          have HW8 := Lib.hid ((bex_drewN HB.out _).trans hB8)
          have HA8 := Lib.hid hA8
          clear hA8 hB8
          go_wp2_with fail
          go_roundw
          case rel => exact HREL.out _ (by have h := HA8.out; simpa [List.append_assoc] using h) HW8.out
          case measure => (simp [RowKit.intOf]; try omega)
        · have ln1 : ((last : Int) != (i : Int)) = true := bne_iff_ne.2 (by omega)
          have hfin : acc ++ m.data.toList ++ [f s[i]] ++ rep (prs l) true (s.data.toList.drop (i + 1)) = rep (prs l) true s.data.toList := by
            rw [← hacc, hrep, ← hmd]
            simp only [List.append_assoc, List.cons_append, List.nil_append]
          have HREL : Hid (∀ w', Snk w' B q (acc ++ m.data.toList ++ [f s[i]]) → Bex B q w w' → ZwRel w B q l s (.int .i64 ((acc.length : Int) + (m.size : Int) + 1)) .nilIface (.int .i64 ((i : Int) + 1)) (.int .i64 ((i : Int) + 1)) w') := Lib.hid (fun w' a1 a2 =>
            ⟨i + 1, i + 1, _, (by simp only [List.length_append, show m.data.toList.length = m.size by simp, List.length_cons, List.length_nil]; push_cast; first | rfl | (congr 1; omega)), rfl, by push_cast; rfl, by push_cast; rfl, Nat.le_refl _, by omega, a1, a2, by rw [Nat.sub_self, List.take_zero, List.append_nil]; exact hfin⟩)
          have hlen : acc.length + m.size + 1 ≤ 35184372088832 := by
            have := HO.out
            rw [← hfin] at this
            simp only [List.length_append, show m.data.toList.length = m.size by simp, List.length_cons, List.length_nil] at this
            omega
          clear hfin
          have hbu : acc.length + m.size ≤ 140737488355328 := by omega
          have hbui : (acc.length : Int) + m.size ≤ 140737488355328 := by omega
          have hb8 : (acc ++ m.data.toList).length + 1 ≤ 140737488355328 := by
            rw [List.length_append, show m.data.toList.length = m.size by simp]; omega
          have hb8i : (acc.length : Int) + m.size + 1 ≤ 140737488355328 := by omega
          clear hrep hacc hm hmz hmd hle
          go_wp2_with fail
          go_region_held3 (fun w' => True) (trivial) ((go_at_call 62; refine (swWrite B q acc m _ (HA.out.drewN _) hbu hBs).mono ?_; rintro e w5 ⟨rfl, hA5, hB5⟩))
          have HW5 := Lib.hid ((bex_drewN HB.out _).trans hB5)
          have HA5 := Lib.hid hA5
          clear hA5 hB5 hmid
          go_wp2_with fail
          have hnB : B ≤ w5.heap.size := Nat.le_trans hBw HW5.out.size
          have hcw := HT1.out _ (HW5.out.agree hq)
          have hC0 : ∀ j u, (byteCells [f s[i]])[j]? = some u → w5.cell? ((⟨rb, s[i].toNat, none⟩ : Addr).add j) = some u := (fun j u hu => by
            cases j with
            | zero => simp [byteCells] at hu; subst hu; exact hcw
            | succ j => simp [byteCells] at hu)
          have HC0 := Lib.hid hC0
          clear hC0
          go_region_held3 (fun w' => True) (trivial) ((go_at_call 39; refine (sinkWrite B q (acc ++ m.data.toList) [f s[i]] ⟨rb, s[i].toNat, none⟩ 1 _ _ rfl (HA5.out.drewN _) HC0.out hb8 hnB).mono ?_; rintro e w8 ⟨rfl, hA8, hB8⟩))
          have HW8 := Lib.hid ((bex_drewN HW5.out _).trans hB8)
          have HA8 := Lib.hid hA8
          clear hA8 hB8
          go_wp2_with fail
          go_roundw
          case rel => exact HREL.out _ (by have h := HA8.out; simpa [List.append_assoc] using h) HW8.out
          case measure => (simp [RowKit.intOf]; try omega)
    · have i1 : ¬ (i : Int) < s.size := by omega
      obtain rfl : i = s.size := by omega
      have hrep : rep (prs l) true (s.data.toList.drop s.size) = [] := by
        obtain ⟨f, _, hf⟩ := HK.out _ (hB.agree hq)
        rw [hf, List.drop_eq_nil_of_le (Nat.le_of_eq HSL.out)]; rfl
      rw [hrep, List.append_nil] at hacc
      clear hrep hB
      by_cases hle : last = s.size
      · have ln1 : ((last : Int) != (s.size : Int)) = false := by rw [hle]; simp
        have hfin : acc = rep (prs l) true s.data.toList := by rw [← hacc, hle, Nat.sub_self, List.take_zero, List.append_nil]
        have HF := Lib.hid hfin
        clear hfin hacc hle
        go_wp2_with fail
        go_ret2
        rw [← HF.out]
        exact ⟨rfl, HA.out, HB.out⟩
      · have ln1 : ((last : Int) != (s.size : Int)) = true := bne_iff_ne.2 (by omega)
        have hcut := cutTail s last hli
        have hsd : (s.extract last s.size).data.toList = s.data.toList.drop last := by rw [Lib.extract_to_end]
        obtain ⟨m, hm⟩ : ∃ m, m = s.extract last s.size := ⟨_, rfl⟩
        rw [← hm] at hcut hsd
        have hmz : m.size = s.size - last := by rw [hm]; simp
        have hfin : acc ++ m.data.toList = rep (prs l) true s.data.toList := by
          rw [← hacc, hsd, List.take_of_length_le (by rw [List.length_drop, HSL.out]; exact Nat.le_refl _)]
        have hlen : acc.length + m.size ≤ 35184372088832 := by
          have := HO.out
          rw [← hfin, List.length_append, show m.data.toList.length = m.size by simp] at this
          exact this
        have hbu : acc.length + m.size ≤ 140737488355328 := by omega
        have hbui : (acc.length : Int) + m.size ≤ 140737488355328 := by omega
        have HF := Lib.hid hfin
        clear hfin hacc hle hm hmz hsd hlen
        go_wp2_with fail
        go_region_held3 (fun w' => True) (trivial) ((go_at_call 62; refine (swWrite B q acc m _ (HA.out.drewN _) hbu hBs).mono ?_; rintro e w3 ⟨rfl, hA3, hB3⟩))
        go_wp2_with fail
        go_ret2
        rw [← HF.out]
        refine ⟨?_, hA3, (bex_drewN HB.out _).trans hB3⟩
        rw [List.length_append, show m.data.toList.length = m.size by simp]
        push_cast
        rfl
end Go.Proofs.Ytlhlehmmaoadgaa
