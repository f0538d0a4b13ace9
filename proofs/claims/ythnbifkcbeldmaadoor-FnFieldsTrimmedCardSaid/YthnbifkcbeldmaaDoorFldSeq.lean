/- strings.FieldsSeq's function value: the pieces of a text without white space, one after the other. -/
import Derived.Test.YthnbifkcbeldmaaDoorFld
import Derived.Test.YthnbifkcbeldmaaDoorSeqStr
namespace Go.Proofs.YthnbifkcbeldmaaDoor
open Go Go.RowKit Go.Lib Go.Proofs
set_option linter.unusedVariables false
attribute [local go_sem] Oper.semAt_some

/-! ### The four tables, in a world -/
def WhiteAt (g T oT R oR : Nat) (w : World) : Prop :=
  w.cell? ⟨g, 0, none⟩ = some (.pointer (some ⟨T, oT, none⟩)) ∧ w.cell? ⟨T, oT, none⟩ = some (.slice (some ⟨R, oR, none⟩) 7 7) ∧
    w.cell? ⟨T, oT + 1, none⟩ = some (.slice none 0 0) ∧ w.cell? ⟨T, oT + 2, none⟩ = some (.int .i64 2) ∧ ∀ i, i < 21 → w.cell? ⟨R, oR + i, none⟩ = some (.int .u16 (whiteT.getD i 0))
def SpTab (g : Nat) (w : World) : Prop := ∀ c : Nat, c < 256 → w.cell? ⟨g, c, none⟩ = some (.int .u8 (if Lib.isSp (UInt8.ofNat c) then 1 else 0))
structure FT (gS gF gA gW T oT R oR : Nat) (w : World) : Prop where
  sp : SpTab gS w
  u8 : Utf8Tabs gF gA w
  wh : WhiteAt gW T oT R oR w
variable {gS gF gA gW T oT R oR : Nat}
theorem FT.white {w : World} (h : FT gS gF gA gW T oT R oR w) : WhiteTab gW w := ⟨T, oT, R, oR, h.wh⟩
theorem FT.kept {w w' : World} (h : FT gS gF gA gW T oT R oR w) (hk : KeepsAt [gS, gF, gA, gW, T, R] w w') : FT gS gF gA gW T oT R oR w' := by
  have c : ∀ b ∈ [gS, gF, gA, gW, T, R], ∀ i, w'.cell? ⟨b, i, none⟩ = w.cell? ⟨b, i, none⟩ := fun b hb i => World.cell?_of_block (w := w) (hk b hb)
  obtain ⟨h1, h2, h3, h4, h5⟩ := h.wh
  refine ⟨fun k hk' => by rw [c gS (by simp)]; exact h.sp k hk', tabs_kept h.u8 (hk gF (by simp)) (hk gA (by simp)), ?_, ?_, ?_, ?_, fun i hi => ?_⟩
  · rw [c gW (by simp)]; exact h1
  · rw [c T (by simp)]; exact h2
  · rw [c T (by simp)]; exact h3
  · rw [c T (by simp)]; exact h4
  · rw [c R (by simp)]; exact h5 i hi
theorem FT.lt {w : World} (h : FT gS gF gA gW T oT R oR w) : ∀ b ∈ [gS, gF, gA, gW, T, R], b < w.heap.size := by
  obtain ⟨h1, h2, h3, h4, h5⟩ := h.wh
  intro b hb
  simp only [List.mem_cons, List.not_mem_nil, or_false] at hb
  rcases hb with rfl | rfl | rfl | rfl | rfl | rfl
  · exact World.block_lt_of_cell? _ _ (h.sp 0 (by decide))
  · exact (tabs_lt h.u8).1
  · exact (tabs_lt h.u8).2
  · exact World.block_lt_of_cell? _ _ h1
  · exact World.block_lt_of_cell? _ _ h2
  · exact World.block_lt_of_cell? _ _ (h5 0 (by decide))
theorem FT.below {w w' : World} (h : FT gS gF gA gW T oT R oR w) (hb : Below w.heap.size w w') : FT gS gF gA gW T oT R oR w' :=
  h.kept fun b hb' => hb.block b (h.lt b hb')

/-! ### Plain -/
theorem closeSpans_prefix (s : ByteArray) (acc : List (Nat × Nat)) (st : Option Nat) : acc <+: closeSpans s (acc, st) := by
  unfold closeSpans
  cases st with
  | none => exact List.prefix_refl _
  | some a => exact List.prefix_append _ _
theorem spans_prefix (p : Nat → Bool) (s : ByteArray) : ∀ f pos st acc, acc <+: closeSpans s (spansFromP p s f pos st acc)
  | 0, pos, st, acc => closeSpans_prefix s acc st
  | f + 1, pos, st, acc => by
    unfold spansFromP
    split
    · split
      · cases st with
        | some a => exact (List.prefix_append _ _).trans (spans_prefix p s f _ none (acc ++ [(a, pos)]))
        | none => exact spans_prefix p s f _ none acc
      · cases st with
        | some a => exact spans_prefix p s f _ (some a) acc
        | none => exact spans_prefix p s f _ (some pos) acc
    · exact closeSpans_prefix s acc st
def exts (s : ByteArray) (l : List (Nat × Nat)) : List ByteArray := l.map fun x => s.extract x.1 x.2
theorem exts_snoc (s : ByteArray) (l : List (Nat × Nat)) (a b : Nat) : exts s (l ++ [(a, b)]) = exts s l ++ [s.extract a b] := by simp [exts]
theorem exts_prefix {s : ByteArray} {l m : List (Nat × Nat)} (h : l <+: m) : exts s l <+: exts s m := List.IsPrefix.map _ h
theorem fields_exts (p : Nat → Bool) (s : ByteArray) : goFieldsP p s = exts s (spansOfP p s) := rfl
theorem decode_ascii_at (s : ByteArray) (pos : Nat) (h : pos < s.size) (ha : s[pos].toNat < 128) : Utf8.decode s pos = (s[pos].toNat, 1) := by
  rw [decode_at, get_eq s pos h]
  exact decodeN_ascii _ _ _ _ _ ha

set_option maxHeartbeats 6400000 in
set_option maxRecDepth 100000 in
theorem fieldsSeq_core (s : ByteArray) (w : World) (Bs : Nat) (hs : s.size ≤ 2147483647) (bs : Boxed w Bs 9 (.string s)) (hF : FT 0 2 3 1 T oT R oR w) :
    SeqBox Tryd.prog 87 #[.pointer (some ⟨Bs, 0, none⟩)] (fun x : ByteArray => #[.string x]) [Bs, 0, 2, 3, 1, T, R] Bs (goFieldsP isSpaceR s) w := by
  intro l J W hW hJ hY h0
  have bs' : Boxed W Bs 9 (.string s) := (hW.block _ bs.lt).trans bs
  have hF' := hF.below hW
  have HY := Lib.hid hY
  have HJ := Lib.hid hJ
  have H0 := Lib.hid h0
  have HFW := Lib.hid hF'
  clear hY hJ h0 hW bs hF hF'
  have hXS : exts s (closeSpans s (spansFromP isSpaceR s s.size 0 none [])) = goFieldsP isSpaceR s := rfl
  generalize goFieldsP isSpaceR s = xs at *
  have HXS := Lib.hid hXS
  clear hXS
  refine callsIn_of_wp Tryd.func87 rfl trivial ?_ rfl
  simp only [Tryd.ntmps87, List.size_toArray, List.length_cons, List.length_nil, Nat.reduceAdd, Nat.reduceSub, Array.replicate_succ, Array.replicate_zero, List.push_toArray, List.append_toArray, List.nil_append, List.cons_append]
  gi_wp2
  gi_loopw [3, 4, 5, 6, 7] (fun z i _ _ _ wr => ∃ (pos f : Nat) (st : Option Nat) (acc : List (Nat × Nat)), z = .int .i64 (match st with | none => -1 | some a => (a : Int)) ∧ i = .int .i64 pos ∧ pos ≤ s.size ∧ s.size ≤ pos + f ∧ (∀ a, st = some a → a ≤ pos) ∧
      spansFromP isSpaceR s f pos st acc = spansFromP isSpaceR s s.size 0 none [] ∧ Boxed wr Bs 9 (.string s) ∧ FT 0 2 3 1 T oT R oR wr ∧ J (exts s acc) wr)
    (fun _ i _ _ _ _ => s.size - (RowKit.intOf i).toNat)
  case atStart => exact ⟨0, s.size, none, [], rfl, rfl, Nat.zero_le _, by omega, fun a h => (by cases h), rfl, bs', HFW.out, H0.out⟩
  case round =>
    obtain ⟨pos, f, st, acc, rfl, rfl, hps, hfu, hst, hsp, xs', hft, hj⟩ := hrel
    have c1 := xs'.cell
    have HFT := Lib.hid hft
    have HSP := Lib.hid hsp
    clear hft hsp
    by_cases hlt : pos < s.size
    · have hltz : (pos : Int) < (s.size : Int) := by omega
      have hwd := Lib.width_pos s pos
      have hwn := decode_w_le s pos hlt
      have hda := decode_ascii_at s pos hlt
      have hds := decode_sub s pos hlt
      obtain ⟨x, hx⟩ : ∃ x : UInt8, s[pos] = x := ⟨_, rfl⟩
      rw [hx] at hda
      have hx256 := x.toNat_lt
      have hxz : (x.toNat : Int) < 256 := by omega
      have hTx : wr.cell? ⟨0, x.toNat, none⟩ = some (.int .u8 (if Lib.isSp x then 1 else 0)) := by have := HFT.out.sp x.toNat (by omega); simpa using this
      obtain ⟨f', rfl⟩ : ∃ f', f = f' + 1 := ⟨f - 1, by omega⟩
      have hstep := HSP.out
      obtain ⟨RR, hRR⟩ : ∃ RR, (Utf8.decode s pos).1 = RR := ⟨_, rfl⟩
      obtain ⟨K, hK⟩ : ∃ K, (Utf8.decode s pos).2 = K := ⟨_, rfl⟩
      simp only [spansFromP, hlt, if_true, hRR, hK] at hstep
      rw [hK] at hwd hwn
      by_cases ha : x.toNat < 128
      · rw [hda ha] at hRR hK
        subst hRR hK
        have haz : ¬ (128 : Int) ≤ (x.toNat : Int) := by omega
        have hsR : isSpaceR x.toNat = isSp x := by cases h : isSp x with | true => exact (isSp_true h).2 | false => exact isSp_false h ha
        rw [hsR] at hstep
        have HST := Lib.hid hstep
        clear hda hds hstep hsR HSP
        have hj0 := hj
        cases hsx : isSp x <;> rw [hsx] at hTx <;> simp only [if_true, Bool.false_eq_true, if_false] at hTx
        · have HST2 := HST.out
          rw [hsx] at HST2
          simp only [Bool.false_eq_true, if_false] at HST2
          have HST3 := Lib.hid HST2
          clear HST HST2
          cases st with
          | none =>
            gi_wp2
            go_roundw
            case rel => exact ⟨pos + 1, f', some pos, acc, rfl, by first | rfl | go_num, by omega, by omega, fun a h => by cases h; omega, HST3.out, xs', HFT.out, hj0⟩
            case measure => simp [RowKit.intOf]; omega
          | some a =>
            have ha0 := hst a rfl
            have z1 : (0 : Int) ≤ (a : Int) := by omega
            have z2 : ¬ (a : Int) < 0 := by omega
            gi_wp2
            go_roundw
            case rel => exact ⟨pos + 1, f', some a, acc, rfl, by first | rfl | go_num, by omega, by omega, fun b h => by cases h; omega, HST3.out, xs', HFT.out, hj0⟩
            case measure => simp [RowKit.intOf]; omega
        · have HST2 := HST.out
          rw [hsx] at HST2
          simp only [if_true] at HST2
          have HST3 := Lib.hid HST2
          clear HST HST2
          cases st with
          | none =>
            gi_wp2
            go_roundw
            case rel => exact ⟨pos + 1, f', none, acc, rfl, by first | rfl | go_num, by omega, by omega, fun a h => (by cases h), HST3.out, xs', HFT.out, hj0⟩
            case measure => simp [RowKit.intOf]; omega
          | some a =>
            have hpre : exts s acc ++ [s.extract a pos] <+: xs := by
              rw [← exts_snoc, ← HXS.out, ← HST3.out]
              exact exts_prefix (spans_prefix isSpaceR s f' _ none _)
            have ha0 := hst a rfl
            have z1 : (0 : Int) ≤ (a : Int) := by omega
            have z2 : (a : Int) ≤ (pos : Int) := by omega
            have z3 : (pos : Int) ≤ (s.size : Int) := by omega
            obtain ⟨fn, tmps, assign, body, hy, hR⟩ := HY.out _ _ wr hpre hj0
            have HPR := Lib.hid hpre
            clear hpre
            gi_wp2
            refine hR.mono ?_
            rintro e W' ⟨rfl, hJ', hkp⟩
            rw [← exts_snoc] at hJ'
            have xs2 := hkp.box (by simp) xs'
            have ft2 := HFT.out.kept (fun b hb => hkp b (List.mem_cons_of_mem _ hb))
            gi_wp2
            go_roundw
            case rel => exact ⟨pos + 1, f', none, acc ++ [(a, pos)], rfl, by first | rfl | go_num, by omega, by omega, fun a h => (by cases h), HST3.out, xs2, ft2, hJ'⟩
            case measure => simp [RowKit.intOf]; omega
      · have haz : (128 : Int) ≤ (x.toNat : Int) := by omega
        have hs0 : isSp x = false := by cases h : isSp x with | true => exact absurd (isSp_true h).1 ha | false => rfl
        rw [hs0] at hTx
        simp only [Bool.false_eq_true, if_false] at hTx
        clear hs0
        have hdR : (Lib.decodeGo (s.extract pos s.size)).1 = RR := by rw [hds, hRR]
        have hdK : (Lib.decodeGo (s.extract pos s.size)).2 = K := by rw [hds, hK]
        have hrune := Lib.rune_le s pos
        rw [hRR] at hrune
        have hj0 := hj
        have HXS0 := Lib.hid xs'
        have HD : Hid (Calls Tryd.prog 84 #[.string (s.extract pos s.size)] wr fun e w' => e = .returned (.tuple #[.int .i32 (RR : Int), .int .i64 (K : Int)]) ∧ Below wr.heap.size wr w') := Lib.hid (by
          have h := Tryd.utf8_DecodeRuneInString (s.extract pos s.size) wr HFT.out.u8
          rw [hdR, hdK] at h
          exact h)
        have HS : Hid (∀ W1, Below wr.heap.size wr W1 → Calls Tryd.prog 88 #[.int .i32 (RR : Int)] W1 fun e w' => e = .returned (.bool (isSpaceR RR)) ∧ Below W1.heap.size W1 w') := Lib.hid (fun W1 hB => by
          have h := Tryd.unicode_IsSpace_any (RR : Int) W1 (by omega) (by omega) (HFT.out.below hB).white
          rw [Lib.isSpaceZ_nat] at h
          exact h)
        clear hda hds hRR hK hdR hdK HSP
        cases hsx : isSpaceR RR <;> rw [hsx] at HS <;> simp only [hsx, if_true, Bool.false_eq_true, if_false] at hstep
        · have HST3 := Lib.hid hstep
          clear hstep
          cases st with
          | none =>
            gi_wp2_with (first
              | (refine ⟨trivial, ?_⟩; gi_at_call 84; refine (callsIn_wide.2 HD.out).mono ?_; rintro e w1 ⟨rfl, hB1⟩)
              | (refine ⟨trivial, ?_⟩; gi_at_call 88; refine (callsIn_wide.2 (HS.out w1 hB1)).mono ?_; rintro e w2 ⟨rfl, hB2⟩))
            have B2 := below2 hB1 hB2
            have xs2 : Boxed w2 Bs 9 (.string s) := (B2.block _ HXS0.out.lt).trans HXS0.out
            have ft2 := HFT.out.below B2
            have hj2 := HJ.out.below hj0 B2
            go_roundw
            case rel => exact ⟨pos + K, f', some pos, acc, rfl, by first | rfl | go_num, by omega, by omega, fun a h => by cases h; omega, HST3.out, xs2, ft2, hj2⟩
            case measure => simp [RowKit.intOf]; omega
          | some a =>
            have ha0 := hst a rfl
            have z1 : (0 : Int) ≤ (a : Int) := by omega
            have z2 : ¬ (a : Int) < 0 := by omega
            gi_wp2_with (first
              | (refine ⟨trivial, ?_⟩; gi_at_call 84; refine (callsIn_wide.2 HD.out).mono ?_; rintro e w1 ⟨rfl, hB1⟩)
              | (refine ⟨trivial, ?_⟩; gi_at_call 88; refine (callsIn_wide.2 (HS.out w1 hB1)).mono ?_; rintro e w2 ⟨rfl, hB2⟩))
            have B2 := below2 hB1 hB2
            have xs2 : Boxed w2 Bs 9 (.string s) := (B2.block _ HXS0.out.lt).trans HXS0.out
            have ft2 := HFT.out.below B2
            have hj2 := HJ.out.below hj0 B2
            go_roundw
            case rel => exact ⟨pos + K, f', some a, acc, rfl, by first | rfl | go_num, by omega, by omega, fun b h => by cases h; omega, HST3.out, xs2, ft2, hj2⟩
            case measure => simp [RowKit.intOf]; omega
        · have HST3 := Lib.hid hstep
          clear hstep
          cases st with
          | none =>
            gi_wp2_with (first
              | (refine ⟨trivial, ?_⟩; gi_at_call 84; refine (callsIn_wide.2 HD.out).mono ?_; rintro e w1 ⟨rfl, hB1⟩)
              | (refine ⟨trivial, ?_⟩; gi_at_call 88; refine (callsIn_wide.2 (HS.out w1 hB1)).mono ?_; rintro e w2 ⟨rfl, hB2⟩))
            have B2 := below2 hB1 hB2
            have xs2 : Boxed w2 Bs 9 (.string s) := (B2.block _ HXS0.out.lt).trans HXS0.out
            have ft2 := HFT.out.below B2
            have hj2 := HJ.out.below hj0 B2
            go_roundw
            case rel => exact ⟨pos + K, f', none, acc, rfl, by first | rfl | go_num, by omega, by omega, fun a h => (by cases h), HST3.out, xs2, ft2, hj2⟩
            case measure => simp [RowKit.intOf]; omega
          | some a =>
            have HPR : Hid (exts s acc ++ [s.extract a pos] <+: xs) := Lib.hid (by
              rw [← exts_snoc, ← HXS.out, ← HST3.out]
              exact exts_prefix (spans_prefix isSpaceR s f' _ none _))
            have ha0 := hst a rfl
            have z1 : (0 : Int) ≤ (a : Int) := by omega
            have z2 : (a : Int) ≤ (pos : Int) := by omega
            have z3 : (pos : Int) ≤ (s.size : Int) := by omega
            gi_wp2_with (first
              | (refine ⟨trivial, ?_⟩; gi_at_call 84; refine (callsIn_wide.2 HD.out).mono ?_; rintro e w1 ⟨rfl, hB1⟩)
              | (refine ⟨trivial, ?_⟩; gi_at_call 88; refine (callsIn_wide.2 (HS.out w1 hB1)).mono ?_; rintro e w2 ⟨rfl, hB2⟩; have xs1 : Boxed w2 Bs 9 (.string s) := ((below2 hB1 hB2).block _ HXS0.out.lt).trans HXS0.out; have c2 := xs1.cell; obtain ⟨fn, tmps, assign, body, hy, hR⟩ := HY.out _ _ w2 HPR.out (HJ.out.below hj0 (below2 hB1 hB2))))
            refine hR.mono ?_
            rintro e W' ⟨rfl, hJ', hkp⟩
            rw [← exts_snoc] at hJ'
            have xs2 := hkp.box (by simp) xs1
            have ft2 := (HFT.out.below (below2 hB1 hB2)).kept (fun b hb => hkp b (List.mem_cons_of_mem _ hb))
            gi_wp2
            go_roundw
            case rel => exact ⟨pos + K, f', none, acc ++ [(a, pos)], rfl, by first | rfl | go_num, by omega, by omega, fun a h => (by cases h), HST3.out, xs2, ft2, hJ'⟩
            case measure => simp [RowKit.intOf]; omega
    · -- the text is through
      have hltz : ¬ (pos : Int) < (s.size : Int) := by omega
      have hfin := HSP.out
      rw [spansFromP_end isSpaceR s f _ _ _ hlt] at hfin
      have hxs := HXS.out
      rw [← hfin] at hxs
      have hj0 := hj
      clear hfin
      cases st with
      | none =>
        have hxs2 : exts s acc = xs := hxs
        rw [hxs2] at hj0
        clear hxs hxs2
        gi_wp2
        go_end0
        exact ⟨⟨_, rfl⟩, hj0⟩
      | some a =>
        have hxs2 : exts s acc ++ [s.extract a s.size] = xs := by rw [← exts_snoc]; exact hxs
        have ha0 := hst a rfl
        have z1 : (0 : Int) ≤ (a : Int) := by omega
        have z2 : (a : Int) ≤ (s.size : Int) := by omega
        obtain ⟨fn, tmps, assign, body, hy, hR⟩ := HY.out _ _ wr (by rw [hxs2]; exact List.prefix_refl _) hj0
        have HXX := Lib.hid hxs2
        clear hxs hxs2
        gi_wp2
        refine hR.mono ?_
        rintro e W' ⟨rfl, hJ', _⟩
        rw [HXX.out] at hJ'
        gi_wp2
        go_end0
        exact ⟨⟨_, rfl⟩, hJ'⟩
end Go.Proofs.YthnbifkcbeldmaaDoor
