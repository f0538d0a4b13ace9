/- bytes.SplitSeq's function value: the pieces of bytes, one after the other. -/
import Derived.Test.YthnbifkcbeldmaaDoorSeq
import Derived.Test.YthnbifkcbeldmaaDoorBSplitI
import Derived.Shelf.Abstract
import Derived.Shelf.RegionOpen
import Derived.WalkKit
import Derived.OwnWalkIn
import Derived.TacticsInMore
import Derived.LoopNIn
import Derived.LoopIn
namespace Go.Proofs.YthnbifkcbeldmaaDoor
open Go Go.RowKit Go.Lib
set_option linter.unusedVariables false
attribute [local go_sem] Oper.semAt_some

/-- a piece and where it lies -/
def slV (b : Nat) (p : Nat × ByteArray) : Value := .slice (some ⟨b, p.1, none⟩) p.2.size p.2.size
def adv (c x f l : Nat) : Nat := if c - f = l then x else x + l
def spx (s : ByteArray) (L save c : Nat) : List Nat → Nat → Nat → List (Nat × ByteArray)
  | [], f, x => [(x, s.extract f s.size)]
  | i :: r, f, x => (x, s.extract f (i + save)) :: spx s L save c r (i + L) (adv c x f (i + L - f))
theorem spx_snd (s : ByteArray) (L save c : Nat) : ∀ l f x, (spx s L save c l f x).map (·.2) = cutPieces s L save l f
  | [], f, x => rfl
  | i :: r, f, x => by rw [spx, List.map_cons, spx_snd s L save c r, cutPieces]
theorem spx_row {w : World} {b : Nat} {s : ByteArray} {L save c : Nat} (hcap : s.size ≤ c) (hsv : save ≤ L) : ∀ l f x, Row w b x (s.extract f s.size) → okB s.size L l f → f ≤ s.size → ∀ p ∈ spx s L save c l f x, Row w b p.1 p.2
  | [], f, x, hr, _, _, p, hp => by
    rw [spx, List.mem_singleton] at hp
    subst hp
    exact hr
  | i :: r, f, x, hr, hok, hf, p, hp => by
    obtain ⟨h1, h2, h3⟩ := hok
    rw [spx, List.mem_cons] at hp
    rcases hp with rfl | hp
    · have := row_upto hr (i + save - f)
      rw [sub_sub, show f + (i + save - f) = i + save by omega] at this
      exact this
    · refine spx_row hcap hsv r (i + L) _ ?_ h3 h2 p hp
      have h := row_sub (c := c - f) hr (by rw [ByteArray.size_extract]; omega) (i + L - f) (s.extract f s.size).size (Nat.le_refl _)
      rw [sub_to_end s f (i + L - f) (by omega), show f + (i + L - f) = i + L by omega] at h
      exact h
/-- what is still to come from f on, at the empty separator, with its places -/
def rcx (s : ByteArray) (c f x : Nat) : List (Nat × ByteArray) := if f < s.size then spx s 0 0 c (tailStarts s f).tail f x else []
theorem rcx_step (s : ByteArray) (c f x : Nat) (h : f < s.size) : rcx s c f x = (x, s.extract f (f + (Utf8.decode s f).2)) :: rcx s c (f + (Utf8.decode s f).2) (adv c x f (Utf8.decode s f).2) := by
  have hw := decode_w_le s f h
  have ht : (tailStarts s f).tail = tailStarts s (f + (Utf8.decode s f).2) := by rw [tailStarts_step s f h]; rfl
  unfold rcx
  rw [if_pos h, ht]
  by_cases h2 : f + (Utf8.decode s f).2 < s.size
  · rw [if_pos h2, tailStarts_step s _ h2, spx, List.tail_cons]
    simp
  · rw [if_neg h2, tailStarts_end s _ h2, spx]
    have : f + (Utf8.decode s f).2 = s.size := by omega
    rw [this]
theorem rcx_end (s : ByteArray) (c f x : Nat) (h : ¬ f < s.size) : rcx s c f x = [] := if_neg h
theorem rcx_snd (s : ByteArray) (c f x : Nat) : (rcx s c f x).map (·.2) = restCh s f := by
  unfold rcx restCh
  split
  · exact spx_snd _ _ _ _ _ _ _
  · rfl
theorem okB_tail_tail (s : ByteArray) (f : Nat) (hf : f ≤ s.size) : okB s.size 0 (tailStarts s f).tail f := by
  have h := okB_tail s (s.size - f) f (Nat.le_refl _) hf
  cases ht : tailStarts s f with
  | nil => exact hf
  | cons y r => rw [ht] at h; exact okB_mono _ _ (by have := h.1; omega) _ h.2.2
theorem rcx_row {w : World} {b : Nat} {s : ByteArray} {c : Nat} (hcap : s.size ≤ c) (f x : Nat) (hr : Row w b x (s.extract f s.size)) (hf : f ≤ s.size) : ∀ p ∈ rcx s c f x, Row w b p.1 p.2 := by
  unfold rcx
  split
  · exact spx_row hcap (Nat.le_refl _) _ f x hr (okB_tail_tail s f hf) hf
  · intro p hp; cases hp
theorem slV_eq (b x n : Nat) (p : ByteArray) (h : p.size = n) : slV b (x, p) = .slice (some ⟨b, x, none⟩) n n := by subst h; rfl
theorem Row.kept {W W' : World} {b o : Nat} {s : ByteArray} (h : Row W b o s) (hk : W'.heap[b]? = W.heap[b]?) : Row W' b o s := fun i hi => by
  rw [World.cell?_of_block (w := W) hk]; exact h i hi
theorem Row.box {W : World} {b o g : Nat} {s : ByteArray} (h : Row W b o s) (hn : b ≠ g) (v : Value) : Row (W.setCell ⟨g, 0, none⟩ v) b o s := h.kept (Below.heap_setCell _ _ _ b hn)
/-- how long the slice in a box is: for a loop's measure -/
def boxSl (W : World) (b : Nat) : Nat := match W.cell? ⟨b, 0, none⟩ with | some v => slLen v | _ => 0
theorem boxSl_eq {W : World} {b : Nat} {t : TypeId} {p : Option Addr} {n c : Nat} (h : Boxed W b t (.slice p n c)) : boxSl W b = n := by
  unfold boxSl; rw [h.cell]; rfl
theorem tabsK {a b : Nat} {W W' : World} (h : Utf8Tabs a b W) (ha : W'.heap[a]? = W.heap[a]?) (hb : W'.heap[b]? = W.heap[b]?) : Utf8Tabs a b W' :=
  ⟨fun c hc => (World.cell?_of_block (w := W) ha).trans (h.1 c hc), fun i hi => ⟨(World.cell?_of_block (w := W) hb).trans (h.2 i hi).1, (World.cell?_of_block (w := W) hb).trans (h.2 i hi).2⟩⟩
theorem tabsL {a b : Nat} {W : World} (h : Utf8Tabs a b W) : a < W.heap.size ∧ b < W.heap.size :=
  ⟨World.block_lt_of_cell? _ _ (h.1 0 (by decide)), World.block_lt_of_cell? _ _ (h.2 0 (by decide)).1⟩
set_option maxHeartbeats 3200000 in
set_option maxRecDepth 100000 in
theorem splitSeqB_empty (s : ByteArray) (psep : Option Addr) (csep c b1 o1 b2 : Nat) (w : World) (Bp Bs Bv : Nat) (hs : s.size ≤ 2147483647) (hcap : s.size ≤ c)
    (hT : Utf8Tabs 2 3 w) (nF : 2 ≠ Bs) (nA : 3 ≠ Bs) (r1 : Row w b1 o1 s) (n3 : b1 ≠ Bs)
    (bp : Boxed w Bp 24 (.slice psep 0 csep)) (bs : Boxed w Bs 24 (.slice (some ⟨b1, o1, none⟩) s.size c)) (n1 : Bp ≠ Bs) :
    SeqBox Tryd.prog 136 #[.pointer (some ⟨Bp, 0, none⟩), .pointer (some ⟨Bs, 0, none⟩), .pointer (some ⟨Bv, 0, none⟩)] (fun p : Nat × ByteArray => #[slV b1 p]) [Bp, Bs, Bv, 2, 3, b1, b2] Bs (rcx s c 0 o1) w := by
  intro l J W hW hJ hY h0
  have bp' : Boxed W Bp 24 (.slice psep 0 csep) := (hW.block _ bp.lt).trans bp
  have bs' : Boxed W Bs 24 (.slice (some ⟨b1, o1, none⟩) s.size c) := (hW.block _ bs.lt).trans bs
  have hT' := Utf8Tabs_below hT hW
  have R1 := Lib.hid (r1.later hW)
  have cp := bp'.cell
  have HY := Lib.hid hY
  have HJ := Lib.hid hJ
  have H0 := Lib.hid h0
  have HT := Lib.hid hT'
  clear hY hJ h0 hW bp bs hT hT' r1
  generalize hxs : rcx s c 0 o1 = xs at *
  refine callsIn_of_wp Tryd.func136 rfl trivial ?_ rfl
  simp only [Tryd.ntmps136, List.size_toArray, List.length_cons, List.length_nil, Nat.reduceAdd, Nat.reduceSub, Array.replicate_succ, Array.replicate_zero, List.push_toArray, List.append_toArray, List.nil_append, List.cons_append]
  gi_wp2
  gi_loopw [5, 6] (fun i fr wr => ∃ (pre : List (Nat × ByteArray)) (f x : Nat), f ≤ s.size ∧ Boxed wr Bs 24 (.slice (some ⟨b1, x, none⟩) (s.size - f) (c - f)) ∧ Row wr b1 x (s.extract f s.size) ∧ Utf8Tabs 2 3 wr ∧
      pre ++ rcx s c f x = xs ∧ J pre wr) (fun i fr wr => boxSl wr Bs)
  case atStart => exact ⟨[], 0, o1, Nat.zero_le _, bs', by rw [whole_piece]; exact R1.out, HT.out, hxs, H0.out⟩
  case round =>
    obtain ⟨pre, f, x, hf, xs', hrow, ht, he, hj⟩ := hrel
    have c1 := xs'.cell
    have HTf := Lib.hid ht
    have HR := Lib.hid hrow
    clear hrow
    by_cases hfs : f < s.size
    · have hst := rcx_step s c f x hfs
      have hw := decode_w_le s f hfs
      have hpos := decode_width_pos s f hfs
      have hds := decode_sub s f hfs
      obtain ⟨t, htt⟩ : ∃ t, s.extract f s.size = t := ⟨_, rfl⟩
      have hts : t.size = s.size - f := by rw [← htt, ByteArray.size_extract]; omega
      obtain ⟨K, hK⟩ : ∃ K, (Utf8.decode s f).2 = K := ⟨_, rfl⟩
      obtain ⟨R, hR⟩ : ∃ R, (Utf8.decode s f).1 = R := ⟨_, rfl⟩
      have HD : Hid (Calls Tryd.prog 94 #[.slice (some ⟨b1, x, none⟩) (s.size - f) (c - f)] wr fun e w' => e = .returned (.tuple #[.int .i32 (R : Int), .int .i64 (K : Int)]) ∧ Below wr.heap.size wr w') := Lib.hid (by
        have h := decRow b1 x (c - f) (s.extract f s.size) wr HR.out HTf.out
        rw [hds, htt, hts, hK, hR] at h
        exact h)
      rw [hK] at hst hw hpos
      rw [hst] at he
      have HE := Lib.hid he
      have hpz : (s.extract f (f + K)).size = K := by rw [ByteArray.size_extract]; omega
      have hval := slV_eq b1 x K _ hpz
      have hr2 := row_sub (c := c - f) HR.out (by rw [htt, hts]; omega) K t.size (by rw [htt]; exact Nat.le_refl _)
      rw [← htt, sub_to_end s f K hw] at hr2
      have HR2 := Lib.hid hr2
      generalize s.extract f (f + K) = pc at *
      have z0 : (0 : Int) < ((s.size - f : Nat) : Int) := by omega
      have d1 : (K : Int) ≤ ((s.size - f : Nat) : Int) := by omega
      have d2 : (K : Int) ≤ ((c - f : Nat) : Int) := by omega
      have d0 : (0 : Int) ≤ (K : Int) := by omega
      have HXS := Lib.hid xs'
      have HKP : Hid (1 ≤ K ∧ K ≤ s.size - f) := Lib.hid (by omega)
      clear hts he hst hds hK hR htt ht hpos hpz hr2
      gi_wp2_with ((refine ⟨trivial, ?_⟩; gi_at_call 94; refine (callsIn_wide.2 HD.out).mono ?_; rintro e w1 ⟨rfl, hB1⟩; have xs1 : Boxed w1 Bs 24 (.slice (some ⟨b1, x, none⟩) (s.size - f) (c - f)) := (hB1.block _ HXS.out.lt).trans HXS.out; have c2 := xs1.cell; obtain ⟨fn, tmps, assign, body, hy, hR⟩ := HY.out pre (x, pc) w1 ⟨_, by rw [List.append_assoc]; exact HE.out⟩ (HJ.out.below hj hB1); rw [hval] at hy))
      refine hR.mono ?_
      rintro e W' ⟨rfl, hJ', hkp⟩
      have xs2 := hkp.box (by simp) xs1
      have k1 := xs2.cell
      have k3 := xs2.frozen
      have HT1 := Lib.hid (Utf8Tabs_below HTf.out hB1)
      have HT2 := Lib.hid (tabsK HT1.out (hkp _ (by simp)) (hkp _ (by simp)))
      have HR3 := Lib.hid ((HR2.out.later hB1).kept (hkp b1 (by simp)))
      gi_wp2
      go_roundw
      case rel =>
        refine ⟨pre ++ [(x, pc)], f + K, adv c x f K, hw, ?_, HR3.out.box n3 _, tabsK HT2.out (Below.heap_setCell _ _ _ _ nF) (Below.heap_setCell _ _ _ _ nA), by rw [List.append_assoc]; exact HE.out, HJ.out.set hJ' _⟩
        have hb := xs2.set (.slice (some ⟨b1, adv c x f K, none⟩) (s.size - (f + K)) (c - (f + K)))
        unfold adv at hb ⊢
        by_cases hcf : c - f = K
        · simp only [hcf, if_true] at hb ⊢
          have e0 : c - (f + K) = 0 := by omega
          rw [e0] at hb ⊢
          first | exact hb | (simpa [Nat.sub_sub] using hb)
        · simp only [hcf, if_false] at hb ⊢
          first | exact hb | (simpa [Nat.sub_sub, hcf] using hb)
      case measure =>
        have hx := fun (v : Value) => (xs2.set v)
        rw [boxSl_eq HXS.out, boxSl_eq (xs2.set _)]
        have := HKP.out
        omega
    · have z0 : ¬ (0 : Int) < ((s.size - f : Nat) : Int) := by omega
      rw [rcx_end s c f x hfs, List.append_nil] at he
      subst he
      gi_wp2
      refine bodyPost_ret (results_none rfl _ _ _) rfl ?_
      exact ⟨⟨_, rfl⟩, hj⟩
end Go.Proofs.YthnbifkcbeldmaaDoor
