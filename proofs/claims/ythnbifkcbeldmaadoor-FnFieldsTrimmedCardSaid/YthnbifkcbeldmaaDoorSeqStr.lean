/- strings.SplitAfterSeq's function value: the pieces of a text, one after the other. -/
import Derived.Test.YthnbifkcbeldmaaDoorSeq
import Derived.Test.YthnbifkcbeldmaaDoorSplitAll
import Derived.Shelf.Abstract
import Derived.Shelf.RegionOpen
import Derived.WalkKit
import Derived.OwnWalkIn
import Derived.TacticsInMore
import Derived.LoopNIn
import Derived.LoopIn
namespace Go.Proofs.YthnbifkcbeldmaaDoor
open Go Go.RowKit Go.Lib
set_option linter.unusedVariables false
attribute [local go_sem] Oper.semAt_some

/-- how long the text in a box is: for a loop's measure -/
def boxLen (W : World) (b : Nat) : Nat := match W.cell? ⟨b, 0, none⟩ with | some (.string x) => x.size | _ => 0
theorem boxLen_eq {W : World} {b : Nat} {t : TypeId} {x : ByteArray} (h : Boxed W b t (.string x)) : boxLen W b = x.size := by
  unfold boxLen; rw [h.cell]
/-- what is still to come from f on, at the empty separator -/
def restChars (s : ByteArray) (f : Nat) : List ByteArray := if f < s.size then cutPieces s 0 0 (tailStarts s f).tail f else []
theorem restChars_step (s : ByteArray) (f : Nat) (h : f < s.size) : restChars s f = s.extract f (f + (Utf8.decode s f).2) :: restChars s (f + (Utf8.decode s f).2) := by
  have hw := decode_w_le s f h
  have ht : (tailStarts s f).tail = tailStarts s (f + (Utf8.decode s f).2) := by rw [tailStarts_step s f h]; rfl
  unfold restChars
  rw [if_pos h, ht]
  by_cases h2 : f + (Utf8.decode s f).2 < s.size
  · rw [if_pos h2, tailStarts_step s _ h2, cutPieces, List.tail_cons]
    rfl
  · rw [if_neg h2, tailStarts_end s _ h2, cutPieces]
    have : f + (Utf8.decode s f).2 = s.size := by omega
    rw [this]
theorem restChars_end (s : ByteArray) (f : Nat) (h : ¬ f < s.size) : restChars s f = [] := if_neg h
theorem restChars_zero (s sep : ByteArray) (keep : Bool) (h : sep.size = 0) : restChars s 0 = pieces s sep (-1) keep := by
  unfold restChars pieces
  by_cases h0 : s.size = 0
  · rw [if_neg (by omega), if_pos (.inr ⟨h0, h⟩)]
  · rw [if_pos (by omega), if_neg (by simp only [h, and_true]; omega), h, tailStarts_zero]
    unfold breaks
    rw [cutMost_neg (by decide), if_pos h]
    congr 1
    cases keep <;> rfl
theorem rest_text (s sep : ByteArray) (keep : Bool) (h : 1 ≤ sep.size) : cutPieces s sep.size (if keep then sep.size else 0) (brk s.data.toList sep.data.toList 0) 0 = pieces s sep (-1) keep := by
  unfold pieces
  rw [if_neg (show ¬ ((-1 : Int) = 0 ∨ s.size = 0 ∧ sep.size = 0) by omega)]
  unfold breaks
  rw [cutMost_neg (by decide), if_neg (show ¬ sep.size = 0 by omega)]

set_option maxHeartbeats 3200000 in
set_option maxRecDepth 100000 in
theorem splitSeq_text (s sep : ByteArray) (save : Nat) (w : World) (Bp Bs Bv : Nat) (hs : s.size ≤ 2147483647) (hp : sep.size ≤ 2147483647) (h1 : 1 ≤ sep.size) (hsv : save ≤ sep.size)
    (bp : Boxed w Bp 9 (.string sep)) (bs : Boxed w Bs 9 (.string s)) (bv : Boxed w Bv 3 (.int .i64 save)) (n1 : Bp ≠ Bs) (n2 : Bv ≠ Bs) :
    SeqBox Tryd.prog 123 #[.pointer (some ⟨Bp, 0, none⟩), .pointer (some ⟨Bs, 0, none⟩), .pointer (some ⟨Bv, 0, none⟩)] (fun x : ByteArray => #[.string x]) [Bp, Bs, Bv, 2, 3] Bs
      (cutPieces s sep.size save (brk s.data.toList sep.data.toList 0) 0) w := by
  intro l J W hW hJ hY h0
  have bp' : Boxed W Bp 9 (.string sep) := (hW.block _ bp.lt).trans bp
  have bs' : Boxed W Bs 9 (.string s) := (hW.block _ bs.lt).trans bs
  have bv' : Boxed W Bv 3 (.int .i64 save) := (hW.block _ bv.lt).trans bv
  have cp := bp'.cell
  have HY := Lib.hid hY
  have HJ := Lib.hid hJ
  have H0 := Lib.hid h0
  have zs : ((sep.size : Int) == 0) = false := beq_eq_false_iff_ne.2 (by omega)
  clear hY hJ h0 hW bp bs bv
  generalize hxs : cutPieces s sep.size save (brk s.data.toList sep.data.toList 0) 0 = xs at *
  refine callsIn_of_wp Tryd.func123 rfl trivial ?_ rfl
  simp only [Tryd.ntmps123, List.size_toArray, List.length_cons, List.length_nil, Nat.reduceAdd, Nat.reduceSub, Array.replicate_succ, Array.replicate_zero, List.push_toArray, List.append_toArray, List.nil_append, List.cons_append]
  gi_wp2
  gi_loopw [7, 8] (fun i fr wr => ∃ (pre : List ByteArray) (f : Nat), f ≤ s.size ∧ Boxed wr Bs 9 (.string (s.extract f s.size)) ∧ Boxed wr Bp 9 (.string sep) ∧ Boxed wr Bv 3 (.int .i64 save) ∧
      pre ++ cutPieces s sep.size save (brk s.data.toList sep.data.toList f) f = xs ∧ J pre wr) (fun i fr wr => boxLen wr Bs)
  case atStart => exact ⟨[], 0, Nat.zero_le _, by rw [whole_piece]; exact bs', bp', bv', hxs, H0.out⟩
  case round =>
    obtain ⟨pre, f, hf, xs', xp, xv, he, hj⟩ := hrel
    have hix : indexB (s.extract f s.size) sep = index (s.data.toList.drop f) sep.data.toList := by rw [indexB, extract_to_end]
    have hsz : (s.extract f s.size).size = s.size - f := by rw [ByteArray.size_extract]; omega
    have h1' : 1 ≤ sep.data.toList.length := by simpa using h1
    have hfl : f ≤ s.data.toList.length := by simpa using hf
    have hsub := fun a => sub_sub s f a
    have hend := fun a h => sub_to_end s f a h
    have hN := fun h => brk_none h1' hfl (hix ▸ h)
    have hS := fun j h => brk_some (j := j) h1' hfl (hix ▸ h)
    have el : sep.data.toList.length = sep.size := by simp
    rw [el] at hS
    clear hix h1' hfl el
    generalize hrest : s.extract f s.size = rest at *
    have HI : Hid (∀ W, Calls Tryd.prog 82 #[.string rest, .string sep] W fun e w' => e = .returned (.int .i64 (indexB rest sep)) ∧ W = w') := Lib.hid (fun W => gsIndex _ _ (by omega) (by omega) W)
    have c1 := xs'.cell
    have c2 := xp.cell
    have c3 := xv.cell
    rcases indexB_cases rest sep with hm | ⟨i, hi, hroom⟩
    · -- none is left
      rw [hN hm, cutPieces, hrest] at he
      have HE := Lib.hid he
      obtain ⟨fn, tmps, assign, body, hy, hR⟩ := HY.out pre rest wr (by rw [← he]; exact List.prefix_refl _) hj
      clear he hN hS hsub hend hrest hsz
      gi_wp2_with ((refine ⟨trivial, ?_⟩; gi_at_call 82; refine (callsIn_wide.2 (HI.out _)).mono ?_; rintro e w' ⟨rfl, rfl⟩; rw [hm]))
      refine hR.mono ?_
      rintro e W' ⟨rfl, hJ', _⟩
      gi_wp2
      go_end0
      rw [HE.out] at hJ'
      exact ⟨⟨_, rfl⟩, hJ'⟩
    · have hb := hS i hi
      have e1 : f + i + save = f + (i + save) := by omega
      have e2 : f + i + sep.size = f + (i + sep.size) := by omega
      rw [hb, cutPieces, e1, e2, ← hsub (i + save)] at he
      have HE := Lib.hid he
      have HN := Lib.hid (hend (i + sep.size) (by omega))
      have hfs : f + (i + sep.size) ≤ s.size := by omega
      obtain ⟨fn, tmps, assign, body, hy, hR⟩ := HY.out pre (rest.extract 0 (i + save)) wr ⟨_, by rw [List.append_assoc]; exact he⟩ hj
      have d1 : (0 : Int) ≤ ↑i + ↑save := by omega
      have d2 : (↑i + ↑save : Int) ≤ ↑rest.size := by omega
      have d3 : (0 : Int) ≤ ↑i + ↑sep.size := by omega
      have d4 : (↑i + ↑sep.size : Int) ≤ ↑rest.size := by omega
      have d5 : ¬ ((i : Int) < 0) := by omega
      clear he hN hS hsub hend hrest hsz hb e1 e2
      gi_wp2_with ((refine ⟨trivial, ?_⟩; gi_at_call 82; refine (callsIn_wide.2 (HI.out _)).mono ?_; rintro e w' ⟨rfl, rfl⟩; rw [hi]))
      refine hR.mono ?_
      rintro e W' ⟨rfl, hJ', hkp⟩
      have xs2 := hkp.box (by simp) xs'
      have xp2 := hkp.box (by simp) xp
      have xv2 := hkp.box (by simp) xv
      have k1 := xs2.cell
      have k2 := xp2.cell
      have k3 := xs2.frozen
      gi_wp2
      go_roundw
      case rel =>
        exact ⟨pre ++ [rest.extract 0 (i + save)], f + (i + sep.size), hfs, by rw [← HN.out]; exact xs2.set _, (Below.heap_setCell _ _ _ Bp n1).trans xp2, (Below.heap_setCell _ _ _ Bv n2).trans xv2, by rw [List.append_assoc]; exact HE.out, HJ.out.set hJ' _⟩
      case measure =>
        have hx := boxLen_eq (xs2.set (.string (rest.extract (i + sep.size) rest.size)))
        rw [boxLen_eq xs', hx, ByteArray.size_extract]
        omega

theorem tabs_kept {a b : Nat} {W W' : World} (h : Utf8Tabs a b W) (ha : W'.heap[a]? = W.heap[a]?) (hb : W'.heap[b]? = W.heap[b]?) : Utf8Tabs a b W' :=
  ⟨fun c hc => (World.cell?_of_block (w := W) ha).trans (h.1 c hc), fun i hi => ⟨(World.cell?_of_block (w := W) hb).trans (h.2 i hi).1, (World.cell?_of_block (w := W) hb).trans (h.2 i hi).2⟩⟩
theorem tabs_lt {a b : Nat} {W : World} (h : Utf8Tabs a b W) : a < W.heap.size ∧ b < W.heap.size :=
  ⟨World.block_lt_of_cell? _ _ (h.1 0 (by decide)), World.block_lt_of_cell? _ _ (h.2 0 (by decide)).1⟩
set_option maxHeartbeats 3200000 in
set_option maxRecDepth 100000 in
theorem splitSeq_empty (s sep : ByteArray) (save : Nat) (w : World) (Bp Bs Bv : Nat) (hs : s.size ≤ 2147483647) (h1 : sep.size = 0)
    (hT : Utf8Tabs 2 3 w) (nF : 2 ≠ Bs) (nA : 3 ≠ Bs)
    (bp : Boxed w Bp 9 (.string sep)) (bs : Boxed w Bs 9 (.string s)) (n1 : Bp ≠ Bs) :
    SeqBox Tryd.prog 123 #[.pointer (some ⟨Bp, 0, none⟩), .pointer (some ⟨Bs, 0, none⟩), .pointer (some ⟨Bv, 0, none⟩)] (fun x : ByteArray => #[.string x]) [Bp, Bs, Bv, 2, 3] Bs (restChars s 0) w := by
  intro l J W hW hJ hY h0
  have bp' : Boxed W Bp 9 (.string sep) := (hW.block _ bp.lt).trans bp
  have bs' : Boxed W Bs 9 (.string s) := (hW.block _ bs.lt).trans bs
  have hT' := Utf8Tabs_below hT hW
  have cp := bp'.cell
  have HY := Lib.hid hY
  have HJ := Lib.hid hJ
  have H0 := Lib.hid h0
  have HT := Lib.hid hT'
  have zs : ((sep.size : Int) == 0) = true := beq_iff_eq.2 (by omega)
  clear hY hJ h0 hW bp bs hT hT' h1
  generalize hxs : restChars s 0 = xs at *
  refine callsIn_of_wp Tryd.func123 rfl trivial ?_ rfl
  simp only [Tryd.ntmps123, List.size_toArray, List.length_cons, List.length_nil, Nat.reduceAdd, Nat.reduceSub, Array.replicate_succ, Array.replicate_zero, List.push_toArray, List.append_toArray, List.nil_append, List.cons_append]
  gi_wp2
  gi_loopw [5, 6] (fun i fr wr => ∃ (pre : List ByteArray) (f : Nat), f ≤ s.size ∧ Boxed wr Bs 9 (.string (s.extract f s.size)) ∧ Utf8Tabs 2 3 wr ∧
      pre ++ restChars s f = xs ∧ J pre wr) (fun i fr wr => boxLen wr Bs)
  case atStart => exact ⟨[], 0, Nat.zero_le _, by rw [whole_piece]; exact bs', HT.out, hxs, H0.out⟩
  case round =>
    obtain ⟨pre, f, hf, xs', ht, he, hj⟩ := hrel
    have hsz : (s.extract f s.size).size = s.size - f := by rw [ByteArray.size_extract]; omega
    have c1 := xs'.cell
    have HTf := Lib.hid ht
    by_cases hfs : f < s.size
    · have hst := restChars_step s f hfs
      have hw := decode_w_le s f hfs
      have hpos := decode_width_pos s f hfs
      have hds := decode_sub s f hfs
      obtain ⟨K, hK⟩ : ∃ K, (Utf8.decode s f).2 = K := ⟨_, rfl⟩
      obtain ⟨R, hR⟩ : ∃ R, (Utf8.decode s f).1 = R := ⟨_, rfl⟩
      have hsub := sub_sub s f K
      have hend := sub_to_end s f K (by omega)
      rw [hK] at hst hw hpos
      rw [hst, ← hsub] at he
      have hdR : (Lib.decodeGo (s.extract f s.size)).1 = R := by rw [hds, hR]
      have hdK : (Lib.decodeGo (s.extract f s.size)).2 = K := by rw [hds, hK]
      generalize hrest : s.extract f s.size = rest at *
      have HD : Hid (Calls Tryd.prog 84 #[.string rest] wr fun e w' => e = .returned (.tuple #[.int .i32 (R : Int), .int .i64 (K : Int)]) ∧ Below wr.heap.size wr w') := Lib.hid (by
        have h := Tryd.utf8_DecodeRuneInString rest wr HTf.out
        rw [hdR, hdK] at h
        exact h)
      have HE := Lib.hid he
      have HN := Lib.hid hend
      have z0 : (0 : Int) < ↑rest.size := by omega
      have d1 : (K : Int) ≤ ↑rest.size := by omega
      have d0 : (0 : Int) ≤ (K : Int) := by omega
      have HXS := Lib.hid xs'
      have HKP : Hid (1 ≤ K ∧ K ≤ rest.size) := Lib.hid (by omega)
      clear hsz
      clear he hst hsub hend hds hK hR hdR hdK hrest ht hpos
      gi_wp2_with ((refine ⟨trivial, ?_⟩; gi_at_call 84; refine (callsIn_wide.2 HD.out).mono ?_; rintro e w1 ⟨rfl, hB1⟩; have xs1 : Boxed w1 Bs 9 (.string rest) := (hB1.block _ HXS.out.lt).trans HXS.out; have c2 := xs1.cell; obtain ⟨fn, tmps, assign, body, hy, hR⟩ := HY.out pre (rest.extract 0 K) w1 ⟨_, by rw [List.append_assoc]; exact HE.out⟩ (HJ.out.below hj hB1)))
      refine hR.mono ?_
      rintro e W' ⟨rfl, hJ', hkp⟩
      have xs2 := hkp.box (by simp) xs1
      have k1 := xs2.cell
      have k3 := xs2.frozen
      have HT1 := Lib.hid (Utf8Tabs_below HTf.out hB1)
      have HT2 := Lib.hid (tabs_kept HT1.out (hkp _ (by simp)) (hkp _ (by simp)))
      gi_wp2
      go_roundw
      case rel =>
        exact ⟨pre ++ [rest.extract 0 K], f + K, hw, by rw [← HN.out]; exact xs2.set _, tabs_kept HT2.out (Below.heap_setCell _ _ _ _ nF) (Below.heap_setCell _ _ _ _ nA), by rw [List.append_assoc]; exact HE.out, HJ.out.set hJ' _⟩
      case measure =>
        have hx := boxLen_eq (xs2.set (.string (rest.extract K rest.size)))
        rw [boxLen_eq HXS.out, hx, ByteArray.size_extract]
        have := HKP.out
        omega
    · have z0 : ¬ (0 : Int) < ↑(s.extract f s.size).size := by omega
      rw [restChars_end s f hfs, List.append_nil] at he
      subst he
      gi_wp2
      refine bodyPost_ret (results_none rfl _ _ _) rfl ?_
      exact ⟨⟨_, rfl⟩, hj⟩

theorem splitSeqMk (s sep : ByteArray) (save : Nat) (w : World) :
    Calls Tryd.prog 90 #[.string s, .string sep, .int .i64 save] w fun e w' => e = .returned (.func (.func 123) #[] #[.pointer (some ⟨w.heap.size + 1, 0, none⟩), .pointer (some ⟨w.heap.size, 0, none⟩), .pointer (some ⟨w.heap.size + 2, 0, none⟩)]) ∧
      w' = ((w.alloc (.cells #[.string s] 9)).alloc (.cells #[.string sep] 9)).alloc (.cells #[.int .i64 save] 3) := by
  go_enter Tryd.func90, Tryd.ntmps90
  go_wp2_with fail
  go_ret
  exact ⟨rfl, rfl⟩
theorem splitAfterSeqMk (s sep : ByteArray) (w : World) :
    Calls Tryd.prog 55 #[.string s, .string sep] w fun e w' => e = .returned (.func (.func 123) #[] #[.pointer (some ⟨w.heap.size + 1, 0, none⟩), .pointer (some ⟨w.heap.size, 0, none⟩), .pointer (some ⟨w.heap.size + 2, 0, none⟩)]) ∧
      w' = ((w.alloc (.cells #[.string s] 9)).alloc (.cells #[.string sep] 9)).alloc (.cells #[.int .i64 sep.size] 3) := by
  go_enter Tryd.func55, Tryd.ntmps55
  go_wp2_with (go_at_call 90; refine (splitSeqMk s sep sep.size _).mono ?_; rintro e w' ⟨rfl, rfl⟩)
  go_ret
  exact ⟨rfl, rfl⟩
end Go.Proofs.YthnbifkcbeldmaaDoor
