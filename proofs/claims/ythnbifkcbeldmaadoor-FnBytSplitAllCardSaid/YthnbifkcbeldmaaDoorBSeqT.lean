/- bytes.SplitSeq's function value at a separator that is not empty; SplitSeq. -/
import Derived.Test.YthnbifkcbeldmaaDoorBSeq
namespace Go.Proofs.YthnbifkcbeldmaaDoor
open Go Go.RowKit Go.Lib
set_option linter.unusedVariables false
attribute [local go_sem] Oper.semAt_some
set_option maxHeartbeats 3200000 in
set_option maxRecDepth 100000 in
theorem splitSeqB_text (s sep : ByteArray) (save c b1 o1 b2 o2 c2 : Nat) (w : World) (Bp Bs Bv : Nat) (hs : s.size ≤ 2147483647) (hp : sep.size ≤ 2147483647) (h1 : 1 ≤ sep.size) (hsv : save ≤ sep.size) (hcap : s.size ≤ c) (hm : c ≤ maxLen)
    (r1 : Row w b1 o1 s) (r2 : Row w b2 o2 sep) (n3 : b1 ≠ Bs) (n4 : b2 ≠ Bs)
    (bp : Boxed w Bp 24 (.slice (some ⟨b2, o2, none⟩) sep.size c2)) (bs : Boxed w Bs 24 (.slice (some ⟨b1, o1, none⟩) s.size c)) (bv : Boxed w Bv 3 (.int .i64 save)) (n1 : Bp ≠ Bs) (n2 : Bv ≠ Bs) :
    SeqBox Tryd.prog 136 #[.pointer (some ⟨Bp, 0, none⟩), .pointer (some ⟨Bs, 0, none⟩), .pointer (some ⟨Bv, 0, none⟩)] (fun p : Nat × ByteArray => #[slV b1 p]) [Bp, Bs, Bv, 2, 3, b1, b2] Bs
      (spx s sep.size save c (brk s.data.toList sep.data.toList 0) 0 o1) w := by
  intro l J W hW hJ hY h0
  have bp' : Boxed W Bp 24 (.slice (some ⟨b2, o2, none⟩) sep.size c2) := (hW.block _ bp.lt).trans bp
  have bs' : Boxed W Bs 24 (.slice (some ⟨b1, o1, none⟩) s.size c) := (hW.block _ bs.lt).trans bs
  have bv' : Boxed W Bv 3 (.int .i64 save) := (hW.block _ bv.lt).trans bv
  have R1 := Lib.hid (r1.later hW)
  have R2 := Lib.hid (r2.later hW)
  have cp := bp'.cell
  have HY := Lib.hid hY
  have HJ := Lib.hid hJ
  have H0 := Lib.hid h0
  have zs : ((sep.size : Int) == 0) = false := beq_eq_false_iff_ne.2 (by omega)
  unfold maxLen at hm
  clear hY hJ h0 hW bp bs bv r1 r2
  generalize hxs : spx s sep.size save c (brk s.data.toList sep.data.toList 0) 0 o1 = xs at *
  refine callsIn_of_wp Tryd.func136 rfl trivial ?_ rfl
  simp only [Tryd.ntmps136, List.size_toArray, List.length_cons, List.length_nil, Nat.reduceAdd, Nat.reduceSub, Array.replicate_succ, Array.replicate_zero, List.push_toArray, List.append_toArray, List.nil_append, List.cons_append]
  gi_wp2
  gi_loopw [7, 8] (fun i fr wr => ∃ (pre : List (Nat × ByteArray)) (f x : Nat), f ≤ s.size ∧ Boxed wr Bs 24 (.slice (some ⟨b1, x, none⟩) (s.size - f) (c - f)) ∧ Row wr b1 x (s.extract f s.size) ∧ Row wr b2 o2 sep ∧ Boxed wr Bp 24 (.slice (some ⟨b2, o2, none⟩) sep.size c2) ∧ Boxed wr Bv 3 (.int .i64 save) ∧
      pre ++ spx s sep.size save c (brk s.data.toList sep.data.toList f) f x = xs ∧ J pre wr) (fun i fr wr => boxSl wr Bs)
  case atStart => exact ⟨[], 0, o1, Nat.zero_le _, bs', by rw [whole_piece]; exact R1.out, R2.out, bp', bv', hxs, H0.out⟩
  case round =>
    obtain ⟨pre, f, x, hf, xs', hrow, hrow2, xp, xv, he, hj⟩ := hrel
    have hix : indexB (s.extract f s.size) sep = index (s.data.toList.drop f) sep.data.toList := by rw [indexB, extract_to_end]
    have h1' : 1 ≤ sep.data.toList.length := by simpa using h1
    have hfl : f ≤ s.data.toList.length := by simpa using hf
    have hN := fun h => brk_none h1' hfl (hix ▸ h)
    have hS := fun j h => brk_some (j := j) h1' hfl (hix ▸ h)
    have el : sep.data.toList.length = sep.size := by simp
    rw [el] at hS
    obtain ⟨t, htt⟩ : ∃ t, s.extract f s.size = t := ⟨_, rfl⟩
    have hts : t.size = s.size - f := by rw [← htt, ByteArray.size_extract]; omega
    have HR := Lib.hid hrow
    have HR2 := Lib.hid hrow2
    rw [htt] at hN hS HR
    have HTT := Lib.hid htt
    have HTS := Lib.hid hts
    have HI : Hid (Calls Tryd.prog 93 #[.slice (some ⟨b1, x, none⟩) (s.size - f) (c - f), .slice (some ⟨b2, o2, none⟩) sep.size c2] wr fun e w' => e = .returned (.int .i64 (indexB t sep)) ∧ Below wr.heap.size wr w') := Lib.hid (by
      have h := indexRow b1 x (c - f) b2 o2 c2 t sep wr (by omega) (by omega) HR.out HR2.out (by omega)
      rw [hts] at h
      exact h.mono fun e w' ⟨h1, q, h2⟩ => ⟨h1, by rw [h2]; exact ⟨rfl, rfl, rfl, Nat.le_refl _, fun _ _ => rfl⟩⟩)
    have c1' := xs'.cell
    have c2' := xp.cell
    have HXS := Lib.hid xs'
    have HXP := Lib.hid xp
    have HXV := Lib.hid xv
    clear hix h1' hfl el hrow hrow2 htt hts xs' xp xv
    rcases indexB_cases t sep with hm' | ⟨i, hi, hroom⟩
    · -- none is left
      rw [hm'] at HI
      rw [hN hm', spx, HTT.out] at he
      have HE := Lib.hid he
      have hval := slV_eq b1 x (s.size - f) t HTS.out
      clear he hN hS hm'
      gi_wp2_with ((refine ⟨trivial, ?_⟩; gi_at_call 93; refine (callsIn_wide.2 HI.out).mono ?_; rintro e w1 ⟨rfl, hB1⟩; have xs1 : Boxed w1 Bs 24 (.slice (some ⟨b1, x, none⟩) (s.size - f) (c - f)) := (hB1.block _ HXS.out.lt).trans HXS.out; have k1 := xs1.cell; obtain ⟨fn, tmps, assign, body, hy, hR⟩ := HY.out pre (x, t) w1 (by rw [← HE.out]; exact List.prefix_refl _) (HJ.out.below hj hB1); rw [hval] at hy))
      refine hR.mono ?_
      rintro e W' ⟨rfl, hJ', _⟩
      gi_wp2
      go_end0
      rw [HE.out] at hJ'
      exact ⟨⟨_, rfl⟩, hJ'⟩
    · have hb := hS i hi
      rw [hi] at HI
      rw [hb, spx, show f + i + sep.size - f = i + sep.size by omega, show f + i + sep.size = f + (i + sep.size) by omega, show f + i + save = f + (i + save) by omega] at he
      have hroom2 : i + sep.size ≤ s.size - f := by rw [← HTS.out]; exact hroom
      have hpz : (s.extract f (f + (i + save))).size = i + save := by rw [ByteArray.size_extract]; omega
      have hval := slV_eq b1 x (i + save) _ hpz
      have HE := Lib.hid he
      have hr2 := row_sub (c := c - f) HR.out (by rw [HTS.out]; omega) (i + sep.size) t.size (Nat.le_refl _)
      rw [← HTT.out, sub_to_end s f (i + sep.size) (by omega)] at hr2
      have HR3 := Lib.hid hr2
      have hfs : f + (i + sep.size) ≤ s.size := by omega
      generalize s.extract f (f + (i + save)) = pc at *
      have d1 : (0 : Int) ≤ ↑i + ↑save := by omega
      have d2 : (↑i + ↑save : Int) ≤ ((c - f : Nat) : Int) := by omega
      have d3 : (0 : Int) ≤ ↑i + ↑sep.size := by omega
      have d4 : (↑i + ↑sep.size : Int) ≤ ((s.size - f : Nat) : Int) := by omega
      have d6 : (↑i + ↑save : Int) ≤ ((s.size - f : Nat) : Int) := by omega
      have d5 : ¬ ((i : Int) < 0) := by omega
      have hval2 : slV b1 (x, pc) = .slice (some ⟨b1, x, none⟩) (i + save) (i + save) := hval
      clear he hN hS hb hr2 hpz hi hroom hval
      gi_wp2_with ((refine ⟨trivial, ?_⟩; gi_at_call 93; refine (callsIn_wide.2 HI.out).mono ?_; rintro e w1 ⟨rfl, hB1⟩; have xs1 : Boxed w1 Bs 24 (.slice (some ⟨b1, x, none⟩) (s.size - f) (c - f)) := (hB1.block _ HXS.out.lt).trans HXS.out; have xp1 : Boxed w1 Bp 24 (.slice (some ⟨b2, o2, none⟩) sep.size c2) := (hB1.block _ HXP.out.lt).trans HXP.out; have xv1 : Boxed w1 Bv 3 (.int .i64 save) := (hB1.block _ HXV.out.lt).trans HXV.out; have k1 := xs1.cell; have k2 := xp1.cell; have k3 := xv1.cell; obtain ⟨fn, tmps, assign, body, hy, hR⟩ := HY.out pre (x, pc) w1 ⟨_, by rw [List.append_assoc]; exact HE.out⟩ (HJ.out.below hj hB1); rw [hval2] at hy))
      refine hR.mono ?_
      rintro e W' ⟨rfl, hJ', hkp⟩
      have xs2 := hkp.box (by simp) xs1
      have xp2 := hkp.box (by simp) xp1
      have xv2 := hkp.box (by simp) xv1
      have HR4 := Lib.hid ((HR3.out.later hB1).kept (hkp b1 (by simp)))
      have HR5 := Lib.hid ((HR2.out.later hB1).kept (hkp b2 (by simp)))
      have m1 := xs2.cell
      have m2 := xp2.cell
      have m3 := xs2.frozen
      gi_wp2
      go_roundw
      case rel =>
        refine ⟨pre ++ [(x, pc)], f + (i + sep.size), adv c x f (i + sep.size), hfs, ?_, HR4.out.box n3 _, HR5.out.box n4 _, (Below.heap_setCell _ _ _ Bp n1).trans xp2, (Below.heap_setCell _ _ _ Bv n2).trans xv2, by rw [List.append_assoc]; exact HE.out, HJ.out.set hJ' _⟩
        have hb := xs2.set (.slice (some ⟨b1, adv c x f (i + sep.size), none⟩) (s.size - (f + (i + sep.size))) (c - (f + (i + sep.size))))
        unfold adv at hb ⊢
        by_cases hcf : c - f = i + sep.size
        · simp only [hcf, if_true] at hb ⊢
          have e0 : c - (f + (i + sep.size)) = 0 := by omega
          rw [e0] at hb ⊢
          first | exact hb | (simpa [Nat.sub_sub] using hb)
        · simp only [hcf, if_false] at hb ⊢
          first | exact hb | (simpa [Nat.sub_sub, hcf] using hb)
      case measure =>
        rw [boxSl_eq HXS.out, boxSl_eq (xs2.set _)]
        omega
theorem splitSeqMkB (v1 v2 : Value) (save : Nat) (w : World) (h1 : ∃ p n c, v1 = .slice p n c) (h2 : ∃ p n c, v2 = .slice p n c) :
    Calls Tryd.prog 104 #[v1, v2, .int .i64 save] w fun e w' => e = .returned (.func (.func 136) #[] #[.pointer (some ⟨w.heap.size + 1, 0, none⟩), .pointer (some ⟨w.heap.size, 0, none⟩), .pointer (some ⟨w.heap.size + 2, 0, none⟩)]) ∧
      w' = ((w.alloc (.cells #[v1] 24)).alloc (.cells #[v2] 24)).alloc (.cells #[.int .i64 save] 3) := by
  obtain ⟨p1, n1, c1, rfl⟩ := h1
  obtain ⟨p2, n2, c2, rfl⟩ := h2
  go_enter Tryd.func104, Tryd.ntmps104
  go_wp2_with fail
  go_ret
  exact ⟨rfl, rfl⟩
theorem splitSeqMkB0 (v1 v2 : Value) (w : World) (h1 : ∃ p n c, v1 = .slice p n c) (h2 : ∃ p n c, v2 = .slice p n c) :
    Calls Tryd.prog 64 #[v1, v2] w fun e w' => e = .returned (.func (.func 136) #[] #[.pointer (some ⟨w.heap.size + 1, 0, none⟩), .pointer (some ⟨w.heap.size, 0, none⟩), .pointer (some ⟨w.heap.size + 2, 0, none⟩)]) ∧
      w' = ((w.alloc (.cells #[v1] 24)).alloc (.cells #[v2] 24)).alloc (.cells #[.int .i64 (0 : Nat)] 3) := by
  have H := Lib.hid (splitSeqMkB v1 v2 0 w h1 h2)
  go_enter Tryd.func64, Tryd.ntmps64
  go_wp2_with (go_at_call 104; refine H.out.mono ?_; rintro e w' ⟨rfl, rfl⟩)
  go_ret
  exact ⟨rfl, rfl⟩
end Go.Proofs.YthnbifkcbeldmaaDoor
