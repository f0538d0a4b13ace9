/- strings.explode: the code points of a text, n pieces at most. -/
import Derived.Test.YthnbifkcbeldmaaDoorSplit
namespace Go.Proofs.YthnbifkcbeldmaaDoor
open Go.RowKit Go.Lib
set_option linter.unusedVariables false

def rowF (d : List ByteArray) (i : Nat) : Value := .string (d.getD i ByteArray.empty)
theorem rowF_app (d : List ByteArray) (x : ByteArray) (i : Nat) : (if i = d.length then .string x else rowF d i) = rowF (d ++ [x]) i := by
  unfold rowF
  by_cases h : i = d.length
  · rw [if_pos h]; simp [h, List.getD]
  · rw [if_neg h]
    by_cases h2 : i < d.length
    · simp [List.getD, List.getElem?_append_left h2]
    · rw [List.getD_eq_getElem?_getD, List.getD_eq_getElem?_getD, List.getElem?_eq_none (by omega), List.getElem?_eq_none (by simp; omega)]
theorem strIn_row {w : World} {b N : Nat} {T : TypeId} {d : List ByteArray} (h : w.rowIs b T N (rowF d)) (hd : d.length ≤ N) : StrIn w (some ⟨b, 0, none⟩) d := fun i hi => by
  refine ⟨b, rfl, h.lt, ?_⟩
  rw [h.cell (by omega)]
  simp [rowF, List.getD, hi]
theorem rowIs_below {w w' : World} {b N : Nat} {T : TypeId} {f : Nat → Value} (h : w.rowIs b T N f) (hb : Below w.heap.size w w') : w'.rowIs b T N f := h.of_block (hb.block _ h.lt)
theorem rowIs_next {w : World} {b N : Nat} {T : TypeId} {d : List ByteArray} (h : w.rowIs b T N (rowF d)) (x : ByteArray) : (w.setCell ⟨b, d.length, none⟩ (.string x)).rowIs b T N (rowF (d ++ [x])) :=
  (h.set d.length (.string x)).congr fun i _ => rowF_app d x i
/-- the pieces of a text at its code points, N of them -/
def chars (s : ByteArray) (N : Nat) : List ByteArray := if N = 0 then [] else cutPieces s 0 0 ((starts s).tail.take (N - 1)) 0
theorem tail_next {s : ByteArray} {k f : Nat} {T : List Nat} (hf : f < s.size) (h : (tailStarts s f).tail = T.drop k) (hk : k < T.length) :
    ∃ h2 : k < T.length, T[k] = f + (Utf8.decode s f).2 ∧ f + (Utf8.decode s f).2 < s.size ∧ (tailStarts s (f + (Utf8.decode s f).2)).tail = T.drop (k + 1) := by
  refine ⟨hk, ?_⟩
  rw [tailStarts_step s f hf, List.tail_cons, List.drop_eq_getElem_cons hk] at h
  by_cases h3 : f + (Utf8.decode s f).2 < s.size
  · have h4 := h
    rw [tailStarts_step s _ h3] at h4
    injection h4 with h5 h6
    refine ⟨h5.symm, h3, ?_⟩
    rw [h, List.tail_cons]
  · rw [tailStarts_end s _ h3] at h
    cases h

def ExRel (s : ByteArray) (N b : Nat) (w : World) (sv iv : Value) (wr : World) : Prop :=
  ∃ (k f : Nat) (d : List ByteArray), sv = .string (s.extract f s.size) ∧ iv = .int .i64 k ∧ k ≤ N - 1 ∧ d.length = k ∧ f ≤ s.size ∧ (1 ≤ N → f < s.size ∧ (tailStarts s f).tail = (starts s).tail.drop k ∧ d ++ cutPieces s 0 0 (((starts s).tail.take (N - 1)).drop k) f = cutPieces s 0 0 ((starts s).tail.take (N - 1)) 0) ∧
    wr.rowIs b 9 N (rowF d) ∧ Below w.heap.size w wr
theorem exRel_next {s : ByteArray} {N b k f : Nat} {w wr : World} {d : List ByteArray} (hb : w.heap.size ≤ b) (hk : k < N - 1) (hN : N ≤ (starts s).length) (hd : d.length = k) (hf : f < s.size) (ht : (tailStarts s f).tail = (starts s).tail.drop k)
    (he : d ++ cutPieces s 0 0 (((starts s).tail.take (N - 1)).drop k) f = cutPieces s 0 0 ((starts s).tail.take (N - 1)) 0) (hrow : wr.rowIs b 9 N (rowF d)) (hB : Below w.heap.size w wr) :
    ExRel s N b w (.string ((s.extract f s.size).extract (Utf8.decode s f).2 (s.extract f s.size).size)) (.int .i64 ((k + 1 : Nat) : Int)) (wr.setCell ⟨b, k, none⟩ (.string ((s.extract f s.size).extract 0 (Utf8.decode s f).2))) := by
  have htl : (starts s).tail.length = (starts s).length - 1 := by simp
  obtain ⟨h1, h2, h3, h4⟩ := tail_next hf ht (by omega)
  subst hd
  refine ⟨d.length + 1, f + (Utf8.decode s f).2, d ++ [s.extract f (f + (Utf8.decode s f).2)], by rw [sub_to_end _ _ _ (by omega)], rfl, by omega, by simp, by omega, fun _ => ⟨h3, h4, ?_⟩, ?_, hB.setCell hb _⟩
  · rw [← he, List.drop_eq_getElem_cons (show d.length < ((starts s).tail.take (N - 1)).length by rw [List.length_take, htl]; omega), cutPieces, List.getElem_take, h2]
    simp
  · rw [sub_sub]; exact rowIs_next hrow _
set_option maxHeartbeats 3200000 in
theorem explode_core (s : ByteArray) (n : Int) (l N : Nat) (w : World) (hs : s.size ≤ 2147483647) (hl : l = runeCount s) (hway : n < 0 ∧ N = l ∨ (¬ n < 0 ∧ (l : Int) < n ∧ N = l) ∨ (¬ n < 0 ∧ ¬ (l : Int) < n ∧ n = N)) (hn : n ≤ 9223372036854775807)
    (hT : Utf8Tabs 2 3 w) : Calls Tryd.prog 124 #[.string s, .int .i64 n] w (RetStrs w (chars s N)) := by
  have hll : l ≤ s.size := by rw [hl]; exact runeCount_le s
  have hlS : l = (starts s).length := by rw [starts_length]; exact hl
  have hNl : N ≤ l := by rcases hway with h | h | h <;> omega
  have HT := Lib.hid hT
  have HLS := Lib.hid hlS
  have HR := Lib.hid hl
  have HNS := Lib.hid (show N ≤ (starts s).length by omega)
  have HS0 := Lib.hid (show 1 ≤ N → 0 < s.size by omega)
  clear hT hlS hl
  rcases hway with ⟨h1, h2⟩ | ⟨h1, h2, h3⟩ | ⟨h1, h2, h3⟩
  all_goals
    have hmk := run_make_row' (P := Tryd.prog) 32 9 (.string ByteArray.empty) 16 Tryd.underlying32 infoS rfl .i64 .i64 N (by omega) (by omega)
    first | subst h2 | subst h3
    go_enter Tryd.func124, Tryd.ntmps124
    go_wp2_with (go_at_call 116; refine (Tryd.utf8_RuneCountInString s w (by omega)).mono ?_; rintro e w' ⟨rfl, pos, hw⟩; rw [← HR.out])
    have hb0 : Below w.heap.size w (w.iter s pos) := iter_below w s pos
    have hrow0 := World.rowIs_made (w.iter s pos) (.string ByteArray.empty) N 9
    have hB0 := hb0.alloc hb0.size (Obj.cells (madeCells #[Value.string ByteArray.empty] N) 9)
    have hwb : w.heap.size ≤ (w.iter s pos).heap.size := hb0.size
    clear hb0
    generalize (w.iter s pos).alloc (Obj.cells (madeCells #[Value.string ByteArray.empty] N) 9) = W0 at *
    generalize (w.iter s pos).heap.size = b at *
    clear hmk
    have z1 : decide ((N : Int) < 0) = false := decide_eq_false (by omega)
    try simp only [z1, Bool.false_or]
    clear z1
    try (have z2 : decide (l < N) = false := decide_eq_false (by omega); simp only [z2, Bool.or_false]; clear z2)
    go_loopw [0, 7] (ExRel s N b w) (fun _ i _ => N - 1 - (RowKit.intOf i).toNat)
    case atStart => exact ⟨0, 0, [], by rw [whole_piece], rfl, Nat.zero_le _, rfl, Nat.zero_le _, fun h => ⟨HS0.out h, by rw [tailStarts_zero]; rfl, rfl⟩, hrow0, hB0⟩
    case round =>
      obtain ⟨k, f, d, rfl, rfl, hk, hd, hf, hbig, hrow, hB⟩ := hrel
      have hsz : (s.extract f s.size).size ≤ s.size := by rw [ByteArray.size_extract]; omega
      have hsz2 : s.size ≤ f + (s.extract f s.size).size := by rw [ByteArray.size_extract]; omega
      have HB := Lib.hid hbig
      have HD := Lib.hid hd
      clear hbig
      by_cases hlt : k < N - 1
      · have hltz : (k : Int) < (N : Int) - 1 := by omega
        obtain ⟨q1, q2, q3⟩ := HB.out (by omega)
        have Q2 := Lib.hid q2
        have Q3 := Lib.hid q3
        have hwl := decode_w_le s f q1
        have DS := Lib.hid (decode_sub s f q1)
        generalize hrest : s.extract f s.size = rest at *
        have RS := Lib.hid hrest
        clear hrest q2 q3 hd
        have c1 : ((Utf8.decode s f).2 : Int) ≤ rest.size := by omega
        go_wp2_with (go_at_call 84; refine (Tryd.utf8_DecodeRuneInString rest wr (Utf8Tabs_below HT.out hB)).mono ?_; rintro e w1 ⟨rfl, hB1⟩; rw [DS.out]; have hrow1 := rowIs_below hrow hB1; have hc1 := hrow1.cell (i := k) (by omega); have hf1 := hrow1.frozen k)
        go_roundw
        case rel => have e := RS.out; subst e; exact exRel_next hwb hlt HNS.out HD.out q1 Q2.out Q3.out hrow1 (hB.trans (hB1.mono hB.size))
        case measure => simp [RowKit.intOf]; omega
      · have hltz : ¬ (k : Int) < (N : Int) - 1 := by omega
        by_cases hN0 : N = 0
        · have hNz : ¬ (0 : Int) < N := by omega
          go_wp2
          go_ret
          exact ⟨some ⟨b, 0, none⟩, 0, rfl, fun i h => absurd h (Nat.not_lt_zero _), hB⟩
        · have hNz : (0 : Int) < N := by omega
          have hchars : chars s N = d ++ [s.extract f s.size] := by
            unfold chars
            rw [if_neg hN0, ← (HB.out (by omega)).2.2, List.drop_eq_nil_of_le (by rw [List.length_take]; omega), cutPieces]
          have hrow1 := rowIs_next hrow (s.extract f s.size)
          have hc1 := hrow.cell (i := k) (by omega)
          have hf1 := hrow.frozen k
          rw [hd] at hrow1
          have HC := Lib.hid hchars
          clear hchars
          have hNk : N = k + 1 := by omega
          subst hNk
          go_wp2
          go_ret
          rw [HC.out]
          exact ⟨some ⟨b, 0, none⟩, k + 1, by simp [hd], strIn_row hrow1 (by simp; omega), hB.setCell hwb _⟩
end Go.Proofs.YthnbifkcbeldmaaDoor
