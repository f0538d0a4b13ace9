/- The reference's SeHas, SeFirstOf, SeLastOf, SeValid, SeTrimLeft, SeTrimRight. -/
import Derived.Test.YthnbifkcbeldmaaDoorTrimU
import Derived.Test.YthnbifkcbeldmaaDoorBreaks
namespace Go.Proofs.YthnbifkcbeldmaaDoor
open Go.Shelf Go.RowKit Go.Lib
set_option linter.unusedVariables false

def isR (s : ByteArray) (r i : Nat) : Bool := (Utf8.decode s i).1 == r
def hasR (chars : ByteArray) (r : Nat) : Bool := (starts chars).any (isR chars r)
def firstW (s : ByteArray) (q : Nat → Bool) : List Nat → Int
  | [] => -1
  | i :: l => if q (Utf8.decode s i).1 = true then (i : Int) else firstW s q l
def lastW (s : ByteArray) (q : Nat → Bool) : List Nat → Int → Int
  | [], acc => acc
  | i :: l, acc => lastW s q l (if q (Utf8.decode s i).1 = true then (i : Int) else acc)
def badR (s : ByteArray) (i : Nat) : Bool := (Utf8.decode s i).1 == 65533 && (Utf8.decode s i).2 == 1
def validR (s : ByteArray) : Bool := !(starts s).any (badR s)
theorem any_take_succ {f : Nat → Bool} {l : List Nat} {k : Nat} (hk : k < l.length) (h : (l.take k).any f = false) (hf : f l[k] = false) : (l.take (k + 1)).any f = false := by
  rw [List.take_succ_eq_append_getElem hk, List.any_append, h]
  simp [hf]
theorem any_hit {f : Nat → Bool} {l : List Nat} {k : Nat} (hk : k < l.length) (hf : f l[k] = true) : l.any f = true := List.any_eq_true.2 ⟨_, List.getElem_mem hk, hf⟩
theorem firstW_drop {s : ByteArray} {q : Nat → Bool} {l : List Nat} {k : Nat} (hk : k < l.length) : firstW s q (l.drop k) = if q (Utf8.decode s l[k]).1 = true then (l[k] : Int) else firstW s q (l.drop (k + 1)) := by
  rw [List.drop_eq_getElem_cons hk, firstW]
theorem lastW_drop {s : ByteArray} {q : Nat → Bool} {l : List Nat} {k : Nat} {acc : Int} (hk : k < l.length) : lastW s q (l.drop k) acc = lastW s q (l.drop (k + 1)) (if q (Utf8.decode s l[k]).1 = true then (l[k] : Int) else acc) := by
  rw [List.drop_eq_getElem_cons hk, lastW]
def HsRel (chars : ByteArray) (r : Nat) (l : List Nat) (v : Value) : Prop := ∃ k : Nat, v = .int .i64 (k : Int) ∧ k ≤ l.length ∧ (l.take k).any (isR chars r) = false
set_option maxHeartbeats 1600000 in
theorem specSeHas (chars : ByteArray) (r : Nat) (w : World) (hz : chars.size ≤ 4294967296) :
    Calls Tryd.prog 49 #[.string chars, .int .i32 (r : Int)] w fun e w' => e = .returned (.bool (hasR chars r)) ∧ Below w.heap.size w w' := by
  have hlt := Lib.hid (starts_lt chars)
  have hsl := starts_le chars
  go_enter Tryd.func49, Tryd.ntmps49
  go_wp2_with (go_at_call 42; refine (seStarts chars hz _).mono ?_; rintro e w2 ⟨v2, rfl, hown2, hB2⟩; obtain ⟨a2, cap2, rfl, hc2, hr2⟩ := own_ints hown2; have HR := Lib.hid hr2; clear hr2)
  have HE := Lib.hid (show (starts chars).any (isR chars r) = hasR chars r from rfl)
  generalize hl : starts chars = l at *
  clear hl
  go_loop [12] (HsRel chars r l) (fun i => l.length - (RowKit.intOf i).toNat)
  case atStart => exact ⟨0, rfl, Nat.zero_le _, by simp⟩
  case round =>
    obtain ⟨k, rfl, hkl, hall⟩ := hrel
    have HALL := Lib.hid hall
    clear hall
    by_cases hk : k < l.length
    · obtain ⟨g, rfl, hg, hcell⟩ := HR.out k hk
      have hx : l[k] < chars.size := hlt.out l[k] (List.getElem_mem _)
      have hkI : (k : Int) < l.length := by omega
      by_cases hr : (Utf8.decode chars l[k]).1 = r
      · have hq : Hid (hasR chars r = true) := Lib.hid (by rw [← HE.out]; exact any_hit hk (by unfold isR; rw [hr]; exact beq_self_eq_true _))
        generalize hy : l[k] = y at *
        have hD : (((Utf8.decode chars y).1 : Int) == (r : Int)) = true := by rw [hr]; exact beq_self_eq_true _
        clear hr hy
        go_wp2_with (go_at_call 43; refine (seRune chars y hx (by omega) _).mono ?_; rintro e w' ⟨rfl, rfl⟩)
        go_ret
        exact ⟨by rw [hq.out]; rfl, hB2⟩
      · have hq := Lib.hid (any_take_succ hk HALL.out (show isR chars r l[k] = false from beq_eq_false_iff_ne.2 hr))
        generalize hy : l[k] = y at *
        have hD : (((Utf8.decode chars y).1 : Int) == (r : Int)) = false := beq_eq_false_iff_ne.2 (fun e => hr (by omega))
        clear hr hy
        go_wp2_with (go_at_call 43; refine (seRune chars y hx (by omega) _).mono ?_; rintro e w' ⟨rfl, rfl⟩)
        go_round
        case rel => exact ⟨k + 1, by go_num, by omega, hq.out⟩
        case measure => simp [RowKit.intOf]; omega
    · obtain rfl : k = l.length := by omega
      have hq := HALL.out
      rw [List.take_length, HE.out] at hq
      have HQ := Lib.hid hq
      have hkI : ¬ (l.length : Int) < l.length := by omega
      clear hq
      go_wp2_with fail
      go_ret
      exact ⟨by rw [HQ.out]; rfl, hB2⟩
def VdRel (s : ByteArray) (l : List Nat) (v : Value) : Prop := ∃ k : Nat, v = .int .i64 (k : Int) ∧ k ≤ l.length ∧ (l.take k).any (badR s) = false
set_option maxHeartbeats 1600000 in
theorem specSeValid (s : ByteArray) (w : World) (hz : s.size ≤ 4294967296) :
    Calls Tryd.prog 14 #[.string s] w fun e w' => e = .returned (.bool (validR s)) ∧ Below w.heap.size w w' := by
  have hlt := Lib.hid (starts_lt s)
  have hsl := starts_le s
  go_enter Tryd.func14, Tryd.ntmps14
  go_wp2_with (go_at_call 42; refine (seStarts s hz _).mono ?_; rintro e w2 ⟨v2, rfl, hown2, hB2⟩; obtain ⟨a2, cap2, rfl, hc2, hr2⟩ := own_ints hown2; have HR := Lib.hid hr2; clear hr2)
  have HE := Lib.hid (show (!(starts s).any (badR s)) = validR s from rfl)
  generalize hl : starts s = l at *
  clear hl
  go_loop [10] (VdRel s l) (fun i => l.length - (RowKit.intOf i).toNat)
  case atStart => exact ⟨0, rfl, Nat.zero_le _, by simp⟩
  case round =>
    obtain ⟨k, rfl, hkl, hall⟩ := hrel
    have HALL := Lib.hid hall
    clear hall
    by_cases hk : k < l.length
    · obtain ⟨g, rfl, hg, hcell⟩ := HR.out k hk
      have hx : l[k] < s.size := hlt.out l[k] (List.getElem_mem _)
      have hkI : (k : Int) < l.length := by omega
      have HN : Hid (badR s l[k] = false → (l.take (k + 1)).any (badR s) = false) := Lib.hid (fun h => any_take_succ hk HALL.out h)
      have HY : Hid (badR s l[k] = true → validR s = false) := Lib.hid (fun h => by rw [← HE.out, any_hit hk h]; rfl)
      generalize hy : l[k] = y at *
      clear hy
      by_cases hr : (Utf8.decode s y).1 = 65533
      · have hD : (((Utf8.decode s y).1 : Int) == 65533) = true := beq_iff_eq.2 (by omega)
        by_cases hr2 : (Utf8.decode s y).2 = 1
        · have hD2 : (((Utf8.decode s y).2 : Int) == 1) = true := beq_iff_eq.2 (by omega)
          have hq := Lib.hid (HY.out (by unfold badR; rw [hr, hr2]; rfl))
          clear hr hr2
          go_wp2_with (go_at_call 43; refine (seRune s y hx (by omega) _).mono ?_; rintro e w' ⟨rfl, rfl⟩)
          go_ret
          exact ⟨by rw [hq.out]; rfl, hB2⟩
        · have hD2 : (((Utf8.decode s y).2 : Int) == 1) = false := beq_eq_false_iff_ne.2 (by omega)
          have hq := Lib.hid (HN.out (by unfold badR; rw [beq_eq_false_iff_ne.2 hr2, Bool.and_false]))
          clear hr hr2
          go_wp2_with (go_at_call 43; refine (seRune s y hx (by omega) _).mono ?_; rintro e w' ⟨rfl, rfl⟩)
          go_round
          case rel => exact ⟨k + 1, by go_num, by omega, hq.out⟩
          case measure => simp [RowKit.intOf]; omega
      · have hD : (((Utf8.decode s y).1 : Int) == 65533) = false := beq_eq_false_iff_ne.2 (by omega)
        have hq := Lib.hid (HN.out (by unfold badR; rw [beq_eq_false_iff_ne.2 hr, Bool.false_and]))
        clear hr
        go_wp2_with (go_at_call 43; refine (seRune s y hx (by omega) _).mono ?_; rintro e w' ⟨rfl, rfl⟩)
        go_round
        case rel => exact ⟨k + 1, by go_num, by omega, hq.out⟩
        case measure => simp [RowKit.intOf]; omega
    · obtain rfl : k = l.length := by omega
      have hq := HALL.out
      rw [List.take_length] at hq
      have HQ : Hid (validR s = true) := Lib.hid (by rw [← HE.out, hq]; rfl)
      have hkI : ¬ (l.length : Int) < l.length := by omega
      clear hq
      go_wp2_with fail
      go_ret
      exact ⟨by rw [HQ.out]; rfl, hB2⟩
theorem ints_below {w w' : World} {a : Option Addr} {l : List Nat} (h : ∀ k (hk : k < l.length), ∃ g, a = some ⟨g, 0, none⟩ ∧ g < w.heap.size ∧ w.cell? ⟨g, k, none⟩ = some (.int .i64 (l[k] : Int))) (hb : Below w.heap.size w w') :
    ∀ k (hk : k < l.length), ∃ g, a = some ⟨g, 0, none⟩ ∧ g < w'.heap.size ∧ w'.cell? ⟨g, k, none⟩ = some (.int .i64 (l[k] : Int)) := fun k hk => by
  obtain ⟨g, e, h1, h2⟩ := h k hk
  exact ⟨g, e, Nat.lt_of_lt_of_le h1 hb.size, by rw [hb.cell (p := ⟨g, k, none⟩) h1]; exact h2⟩
def FoRel (w2 : World) (s : ByteArray) (q : Nat → Bool) (l : List Nat) (v : Value) (wr : World) : Prop := ∃ k : Nat, v = .int .i64 (k : Int) ∧ k ≤ l.length ∧ firstW s q (l.drop k) = firstW s q l ∧ Below w2.heap.size w2 wr
set_option maxHeartbeats 1600000 in
theorem specFirstOf (s chars : ByteArray) (has : Bool) (w : World) (hz : s.size ≤ 4294967296) (hz2 : chars.size ≤ 4294967296) :
    Calls Tryd.prog 39 #[.string s, .string chars, .bool has] w fun e w' => e = .returned (.int .i64 (firstW s (fun r => hasR chars r == has) (starts s))) ∧ Below w.heap.size w w' := by
  have hlt := Lib.hid (starts_lt s)
  have hsl := starts_le s
  have HH := Lib.hid (fun (r : Nat) (W : World) => specSeHas chars r W hz2)
  have HQ : Hid (∀ r : Nat, (fun r => hasR chars r == has) r = (hasR chars r == has)) := Lib.hid (fun _ => rfl)
  generalize (fun r => hasR chars r == has) = q at *
  go_enter Tryd.func39, Tryd.ntmps39
  go_wp2_with (go_at_call 42; refine (seStarts s hz _).mono ?_; rintro e w2 ⟨v2, rfl, hown2, hB2⟩; obtain ⟨a2, cap2, rfl, hc2, hr2⟩ := own_ints hown2; have HR := Lib.hid hr2; clear hr2 hown2)
  generalize hl : starts s = l at *
  have HE := Lib.hid hl
  clear hl
  go_loopw [14] (FoRel w2 s q l) (fun i _ => l.length - (RowKit.intOf i).toNat)
  case atStart => exact ⟨0, rfl, Nat.zero_le _, rfl, Below.refl _ _⟩
  case round =>
    obtain ⟨k, rfl, hkl, hall, B⟩ := hrel
    have HALL := Lib.hid hall
    clear hall
    by_cases hk : k < l.length
    · obtain ⟨g, rfl, hg, hcell⟩ := ints_below HR.out B k hk
      have hx : l[k] < s.size := hlt.out l[k] (List.getElem_mem _)
      have hkI : (k : Int) < l.length := by omega
      have HD : Hid (firstW s q l = if q (Utf8.decode s l[k]).1 = true then (l[k] : Int) else firstW s q (l.drop (k + 1))) := Lib.hid (by rw [← HALL.out]; exact firstW_drop hk)
      generalize hy : l[k] = y at *
      clear hy
      have hqq := HQ.out (Utf8.decode s y).1
      cases hq : (hasR chars (Utf8.decode s y).1 == has) with
      | true =>
        rw [hq] at hqq
        have HF : Hid (firstW s q l = (y : Int)) := Lib.hid (by rw [HD.out, if_pos hqq])
        clear hqq
        go_wp2_with (first
          | (go_at_call 49; refine (HH.out _ _).mono ?_; rintro e w3 ⟨rfl, hB3⟩; have B3 := B.trans (hB3.mono B.size))
          | (go_at_call 43; refine (seRune s y hx (by omega) _).mono ?_; rintro e w' ⟨rfl, rfl⟩))
        go_ret
        exact ⟨by rw [HE.out, HF.out]; rfl, hB2.trans (B3.mono hB2.size)⟩
      | false =>
        rw [hq] at hqq
        have HF : Hid (firstW s q (l.drop (k + 1)) = firstW s q l) := Lib.hid (by rw [HD.out, if_neg (by rw [hqq]; exact Bool.false_ne_true)])
        clear hqq
        go_wp2_with (first
          | (go_at_call 49; refine (HH.out _ _).mono ?_; rintro e w3 ⟨rfl, hB3⟩; have B3 := B.trans (hB3.mono B.size))
          | (go_at_call 43; refine (seRune s y hx (by omega) _).mono ?_; rintro e w' ⟨rfl, rfl⟩))
        go_roundw
        case rel => exact ⟨k + 1, by go_num, by omega, HF.out, B3⟩
        case measure => simp [RowKit.intOf]; omega
    · obtain rfl : k = l.length := by omega
      have HF : Hid (firstW s q l = -1) := Lib.hid (by rw [← HALL.out, List.drop_length]; rfl)
      have hkI : ¬ (l.length : Int) < l.length := by omega
      go_wp2_with fail
      go_ret
      exact ⟨by rw [HE.out, HF.out]; rfl, hB2.trans (B.mono hB2.size)⟩
def LoRel (w2 : World) (s : ByteArray) (q : Nat → Bool) (l : List Nat) (v7 v : Value) (wr : World) : Prop := ∃ (k : Nat) (acc : Int), v = .int .i64 (k : Int) ∧ v7 = .int .i64 acc ∧ k ≤ l.length ∧ lastW s q (l.drop k) acc = lastW s q l (-1) ∧ Below w2.heap.size w2 wr
set_option maxHeartbeats 1600000 in
theorem specLastOf (s chars : ByteArray) (has : Bool) (w : World) (hz : s.size ≤ 4294967296) (hz2 : chars.size ≤ 4294967296) :
    Calls Tryd.prog 21 #[.string s, .string chars, .bool has] w fun e w' => e = .returned (.int .i64 (lastW s (fun r => hasR chars r == has) (starts s) (-1))) ∧ Below w.heap.size w w' := by
  have hlt := Lib.hid (starts_lt s)
  have hsl := starts_le s
  have HH := Lib.hid (fun (r : Nat) (W : World) => specSeHas chars r W hz2)
  have HQ : Hid (∀ r : Nat, (fun r => hasR chars r == has) r = (hasR chars r == has)) := Lib.hid (fun _ => rfl)
  generalize (fun r => hasR chars r == has) = q at *
  go_enter Tryd.func21, Tryd.ntmps21
  go_wp2_with (go_at_call 42; refine (seStarts s hz _).mono ?_; rintro e w2 ⟨v2, rfl, hown2, hB2⟩; obtain ⟨a2, cap2, rfl, hc2, hr2⟩ := own_ints hown2; have HR := Lib.hid hr2; clear hr2 hown2)
  generalize hl : starts s = l at *
  have HE := Lib.hid hl
  clear hl
  go_loopw [7, 15] (LoRel w2 s q l) (fun _ i _ => l.length - (RowKit.intOf i).toNat)
  case atStart => exact ⟨0, -1, rfl, rfl, Nat.zero_le _, rfl, Below.refl _ _⟩
  case round =>
    obtain ⟨k, acc, rfl, rfl, hkl, hall, B⟩ := hrel
    have HALL := Lib.hid hall
    clear hall
    by_cases hk : k < l.length
    · obtain ⟨g, rfl, hg, hcell⟩ := ints_below HR.out B k hk
      have hx : l[k] < s.size := hlt.out l[k] (List.getElem_mem _)
      have hkI : (k : Int) < l.length := by omega
      have HD : Hid (lastW s q l (-1) = lastW s q (l.drop (k + 1)) (if q (Utf8.decode s l[k]).1 = true then (l[k] : Int) else acc)) := Lib.hid (by rw [← HALL.out]; exact lastW_drop hk)
      generalize hy : l[k] = y at *
      clear hy
      have hqq := HQ.out (Utf8.decode s y).1
      cases hq : (hasR chars (Utf8.decode s y).1 == has) with
      | true =>
        rw [hq] at hqq
        have HF : Hid (lastW s q (l.drop (k + 1)) (y : Int) = lastW s q l (-1)) := Lib.hid (by rw [HD.out, if_pos hqq])
        clear hqq
        go_wp2_with (first
          | (go_at_call 49; refine (HH.out _ _).mono ?_; rintro e w3 ⟨rfl, hB3⟩; have B3 := B.trans (hB3.mono B.size))
          | (go_at_call 43; refine (seRune s y hx (by omega) _).mono ?_; rintro e w' ⟨rfl, rfl⟩))
        go_roundw
        case rel => exact ⟨k + 1, _, by go_num, rfl, by omega, HF.out, B3⟩
        case measure => simp [RowKit.intOf]; omega
      | false =>
        rw [hq] at hqq
        have HF : Hid (lastW s q (l.drop (k + 1)) acc = lastW s q l (-1)) := Lib.hid (by rw [HD.out, if_neg (by rw [hqq]; exact Bool.false_ne_true)])
        clear hqq
        go_wp2_with (first
          | (go_at_call 49; refine (HH.out _ _).mono ?_; rintro e w3 ⟨rfl, hB3⟩; have B3 := B.trans (hB3.mono B.size))
          | (go_at_call 43; refine (seRune s y hx (by omega) _).mono ?_; rintro e w' ⟨rfl, rfl⟩))
        go_roundw
        case rel => exact ⟨k + 1, _, by go_num, rfl, by omega, HF.out, B3⟩
        case measure => simp [RowKit.intOf]; omega
    · obtain rfl : k = l.length := by omega
      have HF : Hid (acc = lastW s q l (-1)) := Lib.hid (by rw [← HALL.out, List.drop_length]; rfl)
      have hkI : ¬ (l.length : Int) < l.length := by omega
      go_wp2_with fail
      go_ret
      exact ⟨by rw [HE.out, ← HF.out]; rfl, hB2.trans (B.mono hB2.size)⟩
end Go.Proofs.YthnbifkcbeldmaaDoor
