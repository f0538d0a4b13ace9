/- gobytes.genSplit, explode, Split, SplitAfter over rows; impl's, told as texts. -/
import Derived.Test.YthnbifkcbeldmaaDoorLawCountB
import Derived.Test.YthnbifkcbeldmaaDoorDecRow2
import Derived.Test.YthnbifkcbeldmaaDoorRetR
import Derived.Test.YthnbifkcbeldmaaDoorSplitAll
namespace Go.Proofs.YthnbifkcbeldmaaDoor
open Go Go.RowKit Go.Lib
set_option linter.unusedVariables false

/-- what is still to come from f on, at the empty separator -/
def restCh (s : ByteArray) (f : Nat) : List ByteArray := if f < s.size then cutPieces s 0 0 (tailStarts s f).tail f else []
theorem restCh_step (s : ByteArray) (f : Nat) (h : f < s.size) : restCh s f = s.extract f (f + (Utf8.decode s f).2) :: restCh s (f + (Utf8.decode s f).2) := by
  have hw := decode_w_le s f h
  have ht : (tailStarts s f).tail = tailStarts s (f + (Utf8.decode s f).2) := by rw [tailStarts_step s f h]; rfl
  unfold restCh
  rw [if_pos h, ht]
  by_cases h2 : f + (Utf8.decode s f).2 < s.size
  · rw [if_pos h2, tailStarts_step s _ h2, cutPieces, List.tail_cons]
    rfl
  · rw [if_neg h2, tailStarts_end s _ h2, cutPieces]
    have : f + (Utf8.decode s f).2 = s.size := by omega
    rw [this]
theorem restCh_end (s : ByteArray) (f : Nat) (h : ¬ f < s.size) : restCh s f = [] := if_neg h
theorem restCh_zero (s sep : ByteArray) (keep : Bool) (h : sep.size = 0) : restCh s 0 = pieces s sep (-1) keep := by
  unfold restCh pieces
  by_cases h0 : s.size = 0
  · rw [if_neg (by omega), if_pos (.inr ⟨h0, h⟩)]
  · rw [if_pos (by omega), if_neg (by simp only [h, and_true]; omega), h, tailStarts_zero]
    unfold breaks
    rw [cutMost_neg (by decide), if_pos h]
    congr 1
    cases keep <;> rfl
theorem cut_text (s sep : ByteArray) (keep : Bool) (h : 1 ≤ sep.size) : cutPieces s sep.size (if keep then sep.size else 0) (brk s.data.toList sep.data.toList 0) 0 = pieces s sep (-1) keep := by
  unfold pieces
  rw [if_neg (show ¬ ((-1 : Int) = 0 ∨ s.size = 0 ∧ sep.size = 0) by omega)]
  unfold breaks
  rw [cutMost_neg (by decide), if_neg (show ¬ sep.size = 0 by omega)]

def slLen : Value → Nat
  | .slice _ n _ => n
  | _ => 0
/-- a row of slices of bytes, read -/
def SlIn (w : World) (a : Option Addr) (l : List ByteArray) : Prop := ∀ i (h : i < l.length), ∃ g b o c, a = some ⟨g, 0, none⟩ ∧ g < w.heap.size ∧ w.cell? ⟨g, i, none⟩ = some (.slice (some ⟨b, o, none⟩) l[i].size c) ∧ Row w b o l[i]
def RetSls (w : World) (l : List ByteArray) (e : Ending) (w' : World) : Prop := ∃ a cap, e = .returned (.slice a l.length cap) ∧ SlIn w' a l ∧ Below w.heap.size w w'
/-- the row that is being filled: each value is a slice of bytes that lay in w -/
def FillS (w wr : World) (g N : Nat) (d : List ByteArray) : Prop := ∃ vf : Nat → Value, wr.rowIs g 24 N vf ∧ ∀ i (h : i < d.length), ∃ b o c, vf i = .slice (some ⟨b, o, none⟩) d[i].size c ∧ Row w b o d[i]
theorem FillS.next {w wr : World} {g N : Nat} {d : List ByteArray} (h : FillS w wr g N d) {b o c n : Nat} {x : ByteArray} (hx : Row w b o x) (hn : x.size = n) : FillS w (wr.setCell ⟨g, d.length, none⟩ (.slice (some ⟨b, o, none⟩) n c)) g N (d ++ [x]) := by
  obtain ⟨vf, h1, h2⟩ := h
  refine ⟨_, h1.set d.length _, fun i hi => ?_⟩
  rw [List.length_append, List.length_singleton] at hi
  by_cases hd : i = d.length
  · subst hd
    rw [if_pos rfl]
    refine ⟨b, o, c, ?_, ?_⟩
    · simp [hn]
    · simpa using hx
  · rw [if_neg hd]
    obtain ⟨b', o', c', e1, e2⟩ := h2 i (by omega)
    refine ⟨b', o', c', ?_, ?_⟩
    · rw [e1, List.getElem_append_left (by omega)]
    · rw [List.getElem_append_left (by omega)]; exact e2
theorem FillS.later {w wr w' : World} {g N : Nat} {d : List ByteArray} (h : FillS w wr g N d) (hb : Below wr.heap.size wr w') : FillS w w' g N d := by
  obtain ⟨vf, h1, h2⟩ := h
  exact ⟨vf, h1.of_block (hb.block _ h1.lt), h2⟩
theorem FillS.cell {w wr : World} {g N : Nat} {d : List ByteArray} (h : FillS w wr g N d) {i : Nat} (hi : i < N) : ∃ v, wr.cell? ⟨g, i, none⟩ = some v ∧ wr.frozen? ⟨g, i, none⟩ = false := by
  obtain ⟨vf, h1, h2⟩ := h
  exact ⟨_, h1.cell hi, h1.frozen i⟩
theorem FillS.slIn {w wr : World} {g N : Nat} {d : List ByteArray} (h : FillS w wr g N d) (hd : d.length ≤ N) (hB : Below w.heap.size w wr) : SlIn wr (some ⟨g, 0, none⟩) d := fun i hi => by
  obtain ⟨vf, h1, h2⟩ := h
  obtain ⟨b, o, c, e1, e2⟩ := h2 i hi
  exact ⟨g, b, o, c, rfl, h1.lt, by rw [h1.cell (by omega), e1], e2.later hB⟩
theorem SlIn.below {w w' : World} {a : Option Addr} {l : List ByteArray} (h : SlIn w a l) (hb : Below w.heap.size w w') : SlIn w' a l := fun i hi => by
  obtain ⟨g, b, o, c, e, hg, hc, hr⟩ := h i hi
  exact ⟨g, b, o, c, e, Nat.lt_of_lt_of_le hg hb.size, by rw [hb.cell (p := ⟨g, i, none⟩) hg]; exact hc, hr.later hb⟩
theorem infoB : (Tryd.prog.info? 24).map (fun i => (i.zero, i.size, i.bytes)) = some (some (.slice none 0 0), 1, 24) := by kernel_rfl
theorem fillS_made (w0 w : World) (N : Nat) : FillS w0 (w.alloc (.cells (madeCells #[.slice none 0 0] N) 24)) w.heap.size N [] := ⟨_, World.rowIs_made w _ N _, fun i h => absurd h (Nat.not_lt_zero _)⟩
def GsRel (b c : Nat) (s sep : ByteArray) (save N g : Nat) (w : World) (s0 s10 s11 : Value) (wr : World) : Prop :=
  ∃ (k f x : Nat) (d : List ByteArray), s0 = .slice (some ⟨b, x, none⟩) (s.size - f) (c - f) ∧ Row w b x (s.extract f s.size) ∧ s10 = .int .i64 k ∧ d.length = k ∧ k ≤ N - 1 ∧ f ≤ s.size ∧
    Hid (d ++ splitB sep save (N - 1 - k) (s.extract f s.size) = splitB sep save (N - 1) s) ∧ FillS w wr g N d ∧ Below w.heap.size w wr
set_option maxHeartbeats 4000000 in
set_option maxRecDepth 100000 in
theorem gbGenSplit (b1 o1 c1 b2 o2 c2 : Nat) (s sep : ByteArray) (save : Nat) (w : World) (r1 : Row w b1 o1 s) (r2 : Row w b2 o2 sep) (hcap : s.size ≤ c1) (hm : c1 ≤ maxLen) (hs : s.size ≤ 2147483647) (hp : sep.size ≤ 2147483647) (h1 : 1 ≤ sep.size) (hsv : save ≤ sep.size) :
    Calls Tryd.prog 103 #[.slice (some ⟨b1, o1, none⟩) s.size c1, .slice (some ⟨b2, o2, none⟩) sep.size c2, .int .i64 save, .int .i64 (-1)] w
      (RetSls w (cutPieces s sep.size save (brk s.data.toList sep.data.toList 0) 0)) := by
  obtain ⟨cn, hcn⟩ : ∃ cn : Nat, Lib.countB s sep = cn := ⟨_, rfl⟩
  have hcl := Lib.countB_le sep h1 s.size s (Nat.le_refl _)
  have hC : Calls Tryd.prog 92 #[.slice (some ⟨b1, o1, none⟩) s.size c1, .slice (some ⟨b2, o2, none⟩) sep.size c2] w fun e w' => e = .returned (.int .i64 (cn : Int)) ∧ Below w.heap.size w w' := by
    rw [← hcn, ← cntB_more s sep h1]
    exact gbCount _ _ _ _ _ _ s sep (by omega) (by omega) w r1 r2 hcap
  rw [hcn] at hcl
  have hcut := split_cut s sep save h1 cn 0 (Nat.zero_le _)
  rw [whole_piece, List.take_of_length_le (by rw [← countB_brk s sep h1, hcn]; exact Nat.le_refl _)] at hcut
  rw [← hcut]
  obtain ⟨N, hN⟩ : ∃ N : Nat, N = cn + 1 := ⟨_, rfl⟩
  have hmin : min ((cn : Int) + 1) ((s.size : Int) + 1) = (N : Int) := by rw [Int.min_eq_left (by omega), hN]; rfl
  have hN1 : (1 : Int) ≤ (N : Int) := by omega
  have hN2 : (N : Int) ≤ (s.size : Int) + 1 := by omega
  have hmk := run_make_row' (P := Tryd.prog) 53 24 (.slice none 0 0) 24 Tryd.underlying53 infoB rfl .i64 .i64 N (by omega) (by omega)
  have hz : ((sep.size : Int) == 0) = false := beq_eq_false_iff_ne.2 (by omega)
  have R1 := Lib.hid r1
  have R2 := Lib.hid r2
  unfold maxLen at hm
  have HN0 := Lib.hid hN
  have hcN : cn ≤ s.size := hcl
  clear hcn hcut r1 r2 hN
  go_enter Tryd.func103, Tryd.ntmps103
  go_wp2_with (go_at_call 92; refine hC.mono ?_; rintro e wc ⟨rfl, hBc⟩)
  clear hC hmk hmin
  have HF0 := Lib.hid (fillS_made w wc N)
  have HB0 := Lib.hid (hBc.alloc hBc.size (.cells (madeCells #[.slice none 0 0] N) 24))
  have hg : w.heap.size ≤ wc.heap.size := hBc.size
  clear hBc
  generalize wc.alloc (.cells (madeCells #[.slice none 0 0] N) 24) = w1 at *
  generalize wc.heap.size = g at *
  go_loopw [0, 10, 11] (GsRel b1 c1 s sep save N g w) (fun _ i _ _ => N - (RowKit.intOf i).toNat)
  case atStart => exact ⟨0, 0, o1, [], rfl, by rw [ByteArray.extract_zero_size]; exact R1.out, rfl, rfl, Nat.zero_le _, Nat.zero_le _, Lib.hid (by rw [ByteArray.extract_zero_size, Nat.sub_zero]; rfl), HF0.out, HB0.out⟩
  case round =>
    obtain ⟨k, f, x, d, rfl, hrow, rfl, hd, hk, hf, HS, hF, hB⟩ := hrel
    have HR := Lib.hid hrow
    have HF := Lib.hid hF
    have HB := Lib.hid hB
    have HD := Lib.hid hd
    obtain ⟨t, ht⟩ : ∃ t, s.extract f s.size = t := ⟨_, rfl⟩
    have hts : t.size = s.size - f := by rw [← ht, ByteArray.size_extract]; omega
    have HT := Lib.hid ht
    have HTS := Lib.hid hts
    rw [ht] at HR HS
    have HI : Hid (Calls Tryd.prog 93 #[.slice (some ⟨b1, x, none⟩) (s.size - f) (c1 - f), .slice (some ⟨b2, o2, none⟩) sep.size c2] wr fun e w' => e = .returned (.int .i64 (Lib.indexB t sep)) ∧ Below wr.heap.size wr w') := Lib.hid (by
      have h := indexRow b1 x (c1 - f) b2 o2 c2 t sep wr (by omega) (by omega) (HR.out.later HB.out) (R2.out.later HB.out) (by omega)
      rw [hts] at h
      exact h.mono fun e w' ⟨h1, q, h2⟩ => ⟨h1, by rw [h2]; exact ⟨rfl, rfl, rfl, Nat.le_refl _, fun _ _ => rfl⟩⟩)
    clear hrow hF hd ht hts
    -- how it ends: 'a[i] = s; return a[:i+1]'
    have FIN : Hid (∀ W : World, Below wr.heap.size wr W → splitB sep save (cn - k) t = [t] → RetSls w (splitB sep save cn s) (.returned (.slice (some ⟨g, 0, none⟩) (k + 1) N)) (W.setCell ⟨g, k, none⟩ (.slice (some ⟨b1, x, none⟩) (s.size - f) (c1 - f)))) := Lib.hid (fun W hW h => by
      have e := HS.out
      have hN := HN0.out
      rw [show N - 1 - k = cn - k by omega, h, show N - 1 = cn by omega] at e
      have hfin := (HF.out.later hW).next (c := c1 - f) HR.out HTS.out
      rw [HD.out, e] at hfin
      have hl : (splitB sep save cn s).length = k + 1 := by rw [← e, List.length_append, HD.out]; rfl
      have hBW : Below w.heap.size w W := HB.out.trans (hW.mono HB.out.size)
      have hBS := hBW.setCell (p := ⟨g, k, none⟩) hg (.slice (some ⟨b1, x, none⟩) (s.size - f) (c1 - f))
      exact ⟨some ⟨g, 0, none⟩, N, by rw [hl], hfin.slIn (by omega) hBS, hBS⟩)
    have hk2 : k ≤ cn := by have := HN0.out; omega
    by_cases hlt : k < cn
    · have hltz : (k : Int) < (N : Int) - 1 := by have := HN0.out; omega
      rcases Lib.indexB_cases t sep with hix | ⟨i, hix, hroom⟩
      · rw [hix] at HI
        have FN := Lib.hid (fun W hW => FIN.out W hW (splitB_miss sep save _ t hix))
        clear hix FIN
        go_wp2_with (go_at_call 93; refine HI.out.mono ?_; rintro e wi ⟨rfl, hBi⟩; obtain ⟨v0, hc1, hf1⟩ := (HF.out.later hBi).cell (i := k) (by have := HN0.out; omega))
        go_ret
        exact FN.out _ hBi
      · rw [hix] at HI
        have hroom2 : i + sep.size ≤ s.size - f := by rw [← HTS.out]; exact hroom
        have hnext : splitB sep save (cn - k) t = t.extract 0 (i + save) :: splitB sep save (cn - (k + 1)) (s.extract (f + (i + sep.size)) s.size) := by
          rw [show cn - k = (cn - (k + 1)) + 1 by omega, splitB_hit sep save _ t i hix, ← HT.out, sub_to_end s f (i + sep.size) (by omega)]
        have HN := Lib.hid hnext
        have c0 : ¬ ((i : Int) < 0) := by omega
        have d1 : (0 : Int) ≤ ↑i + ↑save := by omega
        have d2 : (↑i + ↑save : Int) ≤ ((c1 - f : Nat) : Int) := by omega
        have d3 : (0 : Int) ≤ ↑i + ↑sep.size := by omega
        have d4 : (↑i + ↑sep.size : Int) ≤ ((s.size - f : Nat) : Int) := by omega
        clear hix hroom FIN hnext
        go_wp2_with (go_at_call 93; refine HI.out.mono ?_; rintro e wi ⟨rfl, hBi⟩; obtain ⟨v0, hc1, hf1⟩ := (HF.out.later hBi).cell (i := k) (by have := HN0.out; omega))
        go_roundw
        case rel =>
          have hp1 : Row w b1 x (t.extract 0 (i + save)) := row_upto HR.out _
          have hps : (t.extract 0 (i + save)).size = i + save := by rw [ByteArray.size_extract, HTS.out]; omega
          have hF2 := (HF.out.later hBi).next (c := i + save) hp1 hps
          rw [HD.out] at hF2
          have hr2 := row_sub (c := c1 - f) HR.out (by rw [HTS.out]; omega) (i + sep.size) t.size (Nat.le_refl _)
          rw [← HT.out, sub_to_end s f (i + sep.size) (by omega)] at hr2
          refine ⟨k + 1, f + (i + sep.size), _, d ++ [t.extract 0 (i + save)], ?_, hr2, by go_num, by rw [List.length_append, HD.out]; rfl, by have := HN0.out; omega, by omega, Lib.hid ?_, by first | exact hF2 | (push_cast at *; exact hF2), (HB.out.trans (hBi.mono HB.out.size)).setCell (p := ⟨g, k, none⟩) hg _⟩
          · rw [Nat.sub_sub, Nat.sub_sub]; split <;> rfl
          · have e := HS.out
            have hN := HN0.out
            rw [show N - 1 - k = cn - k by omega, HN.out] at e
            rw [show N - 1 - (k + 1) = cn - (k + 1) by omega, List.append_assoc]
            exact e
        case measure => simp [RowKit.intOf]; omega
    · have hltz : ¬ (k : Int) < (N : Int) - 1 := by have := HN0.out; omega
      have FN := Lib.hid (FIN.out wr (Below.refl _ _) (by rw [show cn - k = 0 by omega]; rfl))
      obtain ⟨v0, hc1, hf1⟩ := HF.out.cell (i := k) (by have := HN0.out; omega)
      clear FIN
      go_wp2_with fail
      go_ret
      exact FN.out
def ExpRel (b c : Nat) (s : ByteArray) (P : List ByteArray) (g : Nat) (w : World) (s0 s6 s7 : Value) (wr : World) : Prop :=
  ∃ (k f x : Nat) (d : List ByteArray), s0 = .slice (some ⟨b, x, none⟩) (s.size - f) (c - f) ∧ Row w b x (s.extract f s.size) ∧ s7 = .int .i64 k ∧ d.length = k ∧ k ≤ f ∧ f ≤ s.size ∧
    Hid (d ++ restCh s f = P) ∧ FillS w wr g s.size d ∧ Below w.heap.size w wr
set_option maxHeartbeats 4000000 in
set_option maxRecDepth 1000000 in
theorem gbExplode (b1 o1 c1 : Nat) (s : ByteArray) (w : World) (r1 : Row w b1 o1 s) (hcap : s.size ≤ c1) (hm : c1 ≤ maxLen) (hs : s.size ≤ 2147483647) (hT : Utf8Tabs 2 3 w) :
    Calls Tryd.prog 135 #[.slice (some ⟨b1, o1, none⟩) s.size c1, .int .i64 (-1)] w (RetSls w (restCh s 0)) := by
  obtain ⟨P, hP⟩ : ∃ P, restCh s 0 = P := ⟨_, rfl⟩
  have HP := Lib.hid hP
  rw [hP]
  have hmk := run_make_row' (P := Tryd.prog) 53 24 (.slice none 0 0) 24 Tryd.underlying53 infoB rfl .i64 .i64 s.size (by omega) (by omega)
  have R1 := Lib.hid r1
  have HT := Lib.hid hT
  have hle := Lib.hid hP
  unfold maxLen at hm
  clear hP r1 hT
  go_enter Tryd.func135, Tryd.ntmps135
  go_wp2_with fail
  clear hmk
  have HF0 := Lib.hid (fillS_made w w s.size)
  have HB0 := Lib.hid ((Below.refl w.heap.size w).alloc (Nat.le_refl _) (.cells (madeCells #[.slice none 0 0] s.size) 24))
  generalize w.alloc (.cells (madeCells #[.slice none 0 0] s.size) 24) = w1 at *
  go_loopw [0, 6, 7] (ExpRel b1 c1 s P w.heap.size w) (fun v _ _ _ => slLen v)
  case atStart => exact ⟨0, 0, o1, [], rfl, by rw [ByteArray.extract_zero_size]; exact R1.out, rfl, rfl, Nat.le_refl _, Nat.zero_le _, HP, HF0.out, HB0.out⟩
  case round =>
    obtain ⟨k, f, x, d, rfl, hrow, rfl, hd, hk, hf, HS, hF, hB⟩ := hrel
    have HR := Lib.hid hrow
    have HF := Lib.hid hF
    have HB := Lib.hid hB
    have HD := Lib.hid hd
    obtain ⟨t, ht⟩ : ∃ t, s.extract f s.size = t := ⟨_, rfl⟩
    have hts : t.size = s.size - f := by rw [← ht, ByteArray.size_extract]; omega
    have HT2 := Lib.hid ht
    have HTS := Lib.hid hts
    rw [ht] at HR
    clear hrow hF hd ht hts
    have hgw : w.heap.size ≤ w.heap.size := Nat.le_refl _
    -- how it ends
    have FIN : Hid (∀ (W : World) (d' : List ByteArray), Below w.heap.size w W → FillS w W w.heap.size s.size d' → d'.length ≤ s.size → d' = P → RetSls w P (.returned (.slice (some ⟨w.heap.size, 0, none⟩) d'.length s.size)) W) := Lib.hid (fun W d' hW hF hl e => by
      subst e
      exact ⟨some ⟨w.heap.size, 0, none⟩, s.size, rfl, hF.slIn hl hW, hW⟩)
    by_cases hlt : f < s.size
    · have hst := restCh_step s f hlt
      have hw1 := decode_width_pos s f hlt
      have hw2 := decode_w_le s f hlt
      have e0 : (0 : Int) < ((s.size - f : Nat) : Int) := by omega
      obtain ⟨v0, hc1, hf1⟩ := HF.out.cell (i := k) (by omega)
      by_cases hlast : s.size ≤ k + 1
      · -- the last slot: one byte is left
        have hge : (s.size : Int) ≤ (k : Int) + 1 := by omega
        have hone : (Utf8.decode s f).2 = 1 := by omega
        have hPe : d ++ [t] = P := by
          rw [← HS.out, hst, restCh_end s _ (by omega), hone, ← HT2.out]
          congr 2
          congr 1
          omega
        have HPE := Lib.hid hPe
        have hks : k + 1 ≤ s.size := by omega
        clear hst hw1 hw2 hone hPe
        go_wp2_with fail
        go_ret
        have hF2 := HF.out.next (c := c1 - f) HR.out HTS.out
        rw [HD.out] at hF2
        have h := FIN.out _ _ (HB.out.setCell (p := ⟨w.heap.size, k, none⟩) hgw _) hF2 (by rw [List.length_append, HD.out]; exact hks) HPE.out
        rw [List.length_append, HD.out] at h
        exact h
      · have hge : ¬ (s.size : Int) ≤ (k : Int) + 1 := by omega
        obtain ⟨W0, hWd⟩ : ∃ W0, (Utf8.decode s f).2 = W0 := ⟨_, rfl⟩
        have HD2 : Hid (Calls Tryd.prog 94 #[.slice (some ⟨b1, x, none⟩) (s.size - f) (c1 - f)] wr fun e w' => (∃ R : Nat, e = .returned (.tuple #[.int .i32 (R : Int), .int .i64 (W0 : Int)])) ∧ Below wr.heap.size wr w') := Lib.hid (by
          have h := decRow b1 x (c1 - f) t wr (HR.out.later HB.out) (Utf8Tabs_below HT.out HB.out)
          rw [← HT2.out, decode_sub s f hlt, HT2.out, HTS.out, hWd] at h
          exact h.mono fun e w' ⟨h1, h2⟩ => ⟨⟨_, h1⟩, h2⟩)
        rw [hWd] at hst hw1 hw2
        have hnx := HS.out
        rw [hst] at hnx
        have HN := Lib.hid hnx
        have d1 : (0 : Int) ≤ (W0 : Int) := by omega
        have d2 : (W0 : Int) ≤ ((s.size - f : Nat) : Int) := by omega
        have d3 : (W0 : Int) ≤ ((c1 - f : Nat) : Int) := by omega
        clear hst hnx hWd hc1 hf1 FIN
        go_wp2_with (go_at_call 94; refine HD2.out.mono ?_; rintro e wi ⟨⟨R, rfl⟩, hBi⟩; obtain ⟨v1, hc1, hf1⟩ := (HF.out.later hBi).cell (i := k) (by omega))
        go_roundw
        case rel =>
          have hp1 : Row w b1 x (t.extract 0 W0) := row_upto HR.out _
          have hps : (t.extract 0 W0).size = W0 := by rw [ByteArray.size_extract, HTS.out]; omega
          have hF2 := (HF.out.later hBi).next (c := W0) hp1 hps
          rw [HD.out] at hF2
          have hr2 := row_sub (c := c1 - f) HR.out (by rw [HTS.out]; omega) W0 t.size (Nat.le_refl _)
          rw [← HT2.out, sub_to_end s f W0 (by omega)] at hr2
          refine ⟨k + 1, f + W0, _, d ++ [t.extract 0 W0], ?_, hr2, by go_num, by rw [List.length_append, HD.out]; rfl, by omega, by omega, Lib.hid ?_, hF2, (HB.out.trans (hBi.mono HB.out.size)).setCell (p := ⟨w.heap.size, k, none⟩) hgw _⟩
          · rw [Nat.sub_sub, Nat.sub_sub]; split <;> rfl
          · have e := HN.out
            rw [← HT2.out, sub_sub, List.append_assoc]
            exact e
        case measure => simp only [slLen]; omega
    · have e0 : ¬ (0 : Int) < ((s.size - f : Nat) : Int) := by omega
      have hPe : d = P := by rw [← HS.out, restCh_end s f hlt, List.append_nil]
      have h := FIN.out _ _ HB.out HF.out (by rw [HD.out]; omega) hPe
      rw [HD.out] at h
      have HH := Lib.hid h
      have hks : (k : Int) ≤ (s.size : Int) := by omega
      clear hPe h FIN
      go_wp2_with fail
      go_ret
      exact HH.out
end Go.Proofs.YthnbifkcbeldmaaDoor
