/- gobytes.containsRune, trimLeftUnicode, trimRightUnicode over rows. -/
import Derived.Test.YthnbifkcbeldmaaDoorBTrimA
import Derived.Test.YthnbifkcbeldmaaDoorDecLast
import Derived.Test.YthnbifkcbeldmaaDoorLwTrim
import Derived.Test.YthnbifkcbeldmaaDoorRetR
import Derived.Test.YthnbifkcbeldmaaDoorSplit
import Derived.Laws.RangeAny
namespace Go.Proofs.YthnbifkcbeldmaaDoor
open Go Go.Shelf Go.RowKit Go.Lib
set_option linter.unusedVariables false

def slLen : Value → Nat
  | .slice _ n _ => n
  | _ => 0
theorem slLen_slice (p : Option Addr) (n c : Nat) : slLen (.slice p n c) = n := rfl
set_option maxHeartbeats 1600000 in
theorem gbContainsRune (cut : ByteArray) (r : Nat) (w : World) :
    Calls Tryd.prog 111 #[.string cut, .int .i32 (r : Int)] w fun e w' => e = .returned (.bool (hasR cut r)) ∧ Below w.heap.size w w' := by
  have HA : Hid ((tailStarts cut 0).any (isR cut r) = hasR cut r) := Lib.hid (by rw [tailStarts_zero]; rfl)
  go_enter Tryd.func111, Tryd.ntmps111
  go_wp2_with fail
  go_loopg [] cut.size (fun g wx => ∃ pos : Nat, wx = w.iter cut pos ∧ pos ≤ cut.size ∧ cut.size ≤ pos + g ∧ Hid ((tailStarts cut pos).any (isR cut r) = hasR cut r))
  case atStart => exact ⟨0, rfl, Nat.zero_le _, by omega, HA⟩
  case round =>
    obtain ⟨pos, rfl, hp, hg, H⟩ := hrel
    by_cases hlt : pos < cut.size
    · have hnx := fun ty => run_next_any (P := Tryd.prog) w cut pos ty hlt
      have hw := decode_w_le cut pos hlt
      have hw1 := decode_width_pos cut pos hlt
      have HS := H.out
      rw [tailStarts_step cut pos hlt, List.any_cons] at HS
      obtain ⟨g', rfl⟩ : ∃ g', gk = g' + 1 := ⟨gk - 1, by omega⟩
      by_cases hr : (Utf8.decode cut pos).1 = r
      · have hD : (((Utf8.decode cut pos).1 : Int) == (r : Int)) = true := beq_iff_eq.2 (by omega)
        have HQ : Hid (hasR cut r = true) := Lib.hid (by rw [← HS]; unfold isR; rw [hr]; simp)
        clear HS hr
        go_wp2_with fail
        go_ret
        exact ⟨by rw [HQ.out]; rfl, (Below.refl _ w).alloc (Nat.le_refl _) _⟩
      · have hD : (((Utf8.decode cut pos).1 : Int) == (r : Int)) = false := beq_eq_false_iff_ne.2 (by omega)
        have HN : Hid ((tailStarts cut (pos + (Utf8.decode cut pos).2)).any (isR cut r) = hasR cut r) := Lib.hid (by rw [← HS]; unfold isR; rw [beq_eq_false_iff_ne.2 hr, Bool.false_or])
        clear HS hr
        go_wp2_with fail
        go_roundg g'
        case measure => omega
        case rel => exact ⟨_, rfl, hw, by omega, HN⟩
    · have hnx := fun ty => run_next_end (P := Tryd.prog) w cut pos ty hlt
      have HQ : Hid (hasR cut r = false) := Lib.hid (by rw [← H.out, tailStarts_end cut pos hlt]; rfl)
      go_wp2_with fail
      go_ret
      exact ⟨by rw [HQ.out]; rfl, (Below.refl _ w).alloc (Nat.le_refl _) _⟩
def BtlRel (b c : Nat) (cut s : ByteArray) (w : World) (v0 : Value) (wr : World) : Prop := ∃ i f x : Nat, v0 = .slice (some ⟨b, x, none⟩) (s.size - i) (c - i) ∧ Row w b x (s.extract i s.size) ∧ i ≤ s.size ∧ s.size ≤ i + f ∧ leftP (pOf cut) s.data.toList f i = Left (pOf cut) s.data.toList ∧ Below w.heap.size w wr
set_option maxHeartbeats 3200000 in
set_option maxRecDepth 100000 in
theorem gbTrimLeftUnicode (b o c : Nat) (s cut : ByteArray) (w : World) (hr : Row w b o s) (hcap : s.size ≤ c) (hm : c ≤ maxLen) (hT : Utf8Tabs 2 3 w) :
    Calls Tryd.prog 71 #[.slice (some ⟨b, o, none⟩) s.size c, .string cut] w (RetRow w ⟨(trimL (pOf cut) s.data.toList).toArray⟩) := by
  have HT := Lib.hid hT
  have HR := Lib.hid hr
  have hnot : ∀ (x : Bool) (w : World), (Op.unary .not (.bool x)).run Tryd.prog w = .ok (.bool (!x)) w := fun _ _ => rfl
  unfold maxLen at hm
  clear hT hr
  go_enter Tryd.func71, Tryd.ntmps71
  go_wp2_with fail
  go_loopw [0] (BtlRel b c cut s w) (fun v _ => slLen v)
  case atStart => exact ⟨0, s.data.toList.length, o, rfl, by rw [ByteArray.extract_zero_size]; exact HR.out, Nat.zero_le _, by rw [← Lib.size_eq]; omega, rfl, Below.refl _ _⟩
  case round =>
    obtain ⟨i, f, x, rfl, hrow, hi, hf, hl, B⟩ := hrel
    have HL := Lib.hid hl
    clear hl
    have hsl : s.data.toList.length = s.size := (Lib.size_eq s).symm
    obtain ⟨t, ht⟩ : ∃ t, s.extract i s.size = t := ⟨_, rfl⟩
    have hts : t.size = s.size - i := by rw [← ht, ByteArray.size_extract]; omega
    rw [ht] at hrow
    have RT := Lib.hid (hrow.later B)
    have RW := Lib.hid hrow
    have HTT := Lib.hid ht
    have HTS := Lib.hid hts
    clear hrow
    by_cases hlt : i < s.size
    · have hgo : decodeGo t = decodeL (s.data.toList.drop i) := by rw [← ht, decode_sub s i hlt, dec_list]
      have hw := wd_le s.data.toList i (by omega)
      have HD : Hid (Calls Tryd.prog 94 #[.slice (some ⟨b, x, none⟩) (s.size - i) (c - i)] wr fun e w' => e = .returned (.tuple #[.int .i32 (rn s.data.toList i : Int), .int .i64 (wd s.data.toList i : Int)]) ∧ Below wr.heap.size wr w') := Lib.hid (by
        have h := decRow b x (c - i) t wr RT.out (Utf8Tabs_below HT.out B)
        rw [hgo, hts] at h
        exact h)
      have HC : Hid (∀ W, Calls Tryd.prog 111 #[.string cut, .int .i32 (rn s.data.toList i : Int)] W fun e w' => e = .returned (.bool (pOf cut (rn s.data.toList i))) ∧ Below W.heap.size W w') := Lib.hid (fun W => by
        rw [pOf_has cut _ (rn_scal _ _)]
        exact gbContainsRune cut _ W)
      have e0 : (0 : Int) < ((s.size - i : Nat) : Int) := by omega
      have e00 : (((s.size - i : Nat) : Int) == 0) = false := beq_eq_false_iff_ne.2 (by omega)
      cases hp : pOf cut (rn s.data.toList i) with
      | true =>
        rw [hp] at HC
        obtain ⟨f', rfl⟩ : ∃ f', f = f' + 1 := ⟨f - 1, by omega⟩
        have hstep : leftP (pOf cut) s.data.toList f' (i + wd s.data.toList i) = Left (pOf cut) s.data.toList := by
          have h1 := HL.out
          rw [leftP, if_pos ⟨by omega, hp⟩] at h1
          exact h1
        have HST := Lib.hid hstep
        generalize hR : rn s.data.toList i = R at *
        generalize hWd : wd s.data.toList i = W0 at *
        have e1 : (0 : Int) ≤ (W0 : Int) := by omega
        have e2 : (W0 : Int) ≤ ((s.size - i : Nat) : Int) := by omega
        have hrow2 : Row w b (if c - i = W0 then x else x + W0) (s.extract (i + W0) s.size) := by
          have h := row_sub (c := c - i) RW.out (by rw [hts]; omega) W0 t.size (Nat.le_refl _)
          have e : t.extract W0 t.size = s.extract (i + W0) s.size := by
            rw [← ht, ByteArray.extract_extract]
            congr 1
            rw [ByteArray.size_extract]
            omega
          rwa [e] at h
        have R2 := Lib.hid hrow2
        clear hgo hp hstep ht hts hrow2 HTT HTS
        go_wp2_with (first
          | (go_at_call 111; have B1' := B1; refine (HC.out _).mono ?_; rintro e w2 ⟨rfl, hB2⟩; have B2 : Below w.heap.size w w2 := B1.trans (hB2.mono B1.size))
          | (go_at_call 94; refine HD.out.mono ?_; rintro e w1 ⟨rfl, hB1⟩; have B1 : Below w.heap.size w w1 := B.trans (hB1.mono B.size)))
        go_roundw
        case rel => exact ⟨i + W0, f', _, by rw [Nat.sub_sub, Nat.sub_sub]; split <;> rfl, R2.out, by omega, by omega, HST.out, B2⟩
        case measure => simp only [slLen]; omega
      | false =>
        rw [hp] at HC
        have hstop : Left (pOf cut) s.data.toList = i := by
          rw [← HL.out]
          cases f with
          | zero => rfl
          | succ f => rw [leftP, if_neg (fun h => by have h2 := h.2; unfold rn at hp; rw [hp] at h2; cases h2)]
        have HS := Lib.hid hstop
        generalize hR : rn s.data.toList i = R at *
        generalize hWd : wd s.data.toList i = W0 at *
        clear hgo hp hstop ht hts
        go_wp2_with (first
          | (go_at_call 111; have B1' := B1; refine (HC.out _).mono ?_; rintro e w2 ⟨rfl, hB2⟩; have B2 : Below w.heap.size w w2 := B1.trans (hB2.mono B1.size))
          | (go_at_call 94; refine HD.out.mono ?_; rintro e w1 ⟨rfl, hB1⟩; have B1 : Below w.heap.size w w1 := B.trans (hB1.mono B.size)))
        go_ret
        exact retRow_of (t := t) (by rw [trimL, HS.out, mk_drop, HTT.out]) HTS.out (by omega) (by unfold maxLen; omega) (RW.out.later B2) B2
    · have hi2 : i = s.size := by omega
      have hstop : Left (pOf cut) s.data.toList = i := by
        rw [← HL.out]
        cases f with
        | zero => rfl
        | succ f => rw [leftP, if_neg (fun h => by have := h.1; omega)]
      have HS := Lib.hid hstop
      have HI := Lib.hid hi2
      have e0 : ¬ ((0 : Int) < ((s.size - i : Nat) : Int)) := by omega
      have e00 : (((s.size - i : Nat) : Int) == 0) = true := beq_iff_eq.2 (by omega)
      clear hstop ht hts hlt hi2
      go_wp2_with fail
      go_ret
      exact retRow_nil (by rw [trimL, HS.out, HI.out, Lib.size_mk, List.length_drop, ← Lib.size_eq, Nat.sub_self]) B
def BtrRel (b o c : Nat) (cut s : ByteArray) (w : World) (v0 : Value) (wr : World) : Prop := ∃ i f : Nat, v0 = .slice (some ⟨b, o, none⟩) i c ∧ i ≤ s.size ∧ i ≤ f ∧ rightP (pOf cut) s.data.toList f i = Right (pOf cut) s.data.toList ∧ Below w.heap.size w wr
theorem decLast_scal (l : List UInt8) : Scal (decodeLastL l).1 := by
  have hbad : Scal 65533 := .inr (by omega)
  unfold decodeLastL
  split
  · exact hbad
  split
  next h => exact .inl h
  dsimp only
  split
  · exact rn_scal l _
  · exact hbad
set_option maxHeartbeats 3200000 in
set_option maxRecDepth 100000 in
theorem gbTrimRightUnicode (b o c : Nat) (s cut : ByteArray) (w : World) (hr : Row w b o s) (hcap : s.size ≤ c) (hm : c ≤ maxLen) (hT : Utf8Tabs 2 3 w) :
    Calls Tryd.prog 74 #[.slice (some ⟨b, o, none⟩) s.size c, .string cut] w fun e w' => e = .returned (.slice (some ⟨b, o, none⟩) (Right (pOf cut) s.data.toList) c) ∧ Below w.heap.size w w' := by
  have HT := Lib.hid hT
  have HR := Lib.hid hr
  have hnot : ∀ (x : Bool) (w : World), (Op.unary .not (.bool x)).run Tryd.prog w = .ok (.bool (!x)) w := fun _ _ => rfl
  unfold maxLen at hm
  clear hT hr
  go_enter Tryd.func74, Tryd.ntmps74
  go_wp2_with fail
  go_loopw [0] (BtrRel b o c cut s w) (fun v _ => slLen v)
  case atStart => exact ⟨s.size, s.data.toList.length, rfl, Nat.le_refl _, by rw [← Lib.size_eq]; exact Nat.le_refl _, by rw [Right, ← Lib.size_eq], Below.refl _ _⟩
  case round =>
    obtain ⟨i, f, rfl, hi, hf, hl, B⟩ := hrel
    have HL := Lib.hid hl
    clear hl
    have hsl : s.data.toList.length = s.size := (Lib.size_eq s).symm
    have RW := Lib.hid (HR.out.later B)
    by_cases hlt : 0 < i
    · obtain ⟨m, rfl⟩ : ∃ m, i = m + 1 := ⟨i - 1, by omega⟩
      have htl : (s.data.toList.take (m + 1)).length = m + 1 := by rw [List.length_take]; omega
      have hw := decodeLastL_width (s.data.toList.take (m + 1)) (by omega)
      rw [htl] at hw
      have hT1 : (s.extract 0 (m + 1)).size = m + 1 := by rw [ByteArray.size_extract]; omega
      have HD : Hid (Calls Tryd.prog 110 #[.slice (some ⟨b, o, none⟩) (m + 1) c] wr fun e w' => e = .returned (.tuple #[.int .i32 ((decodeLastL (s.data.toList.take (m + 1))).1 : Int), .int .i64 ((decodeLastL (s.data.toList.take (m + 1))).2 : Int)]) ∧ Below wr.heap.size wr w') := Lib.hid (by
        have h := decLastRow (s.extract 0 (m + 1)) b o c wr (by omega) (fun j hj => rowAt (row_upto RW.out (m + 1)) j hj) (by omega) (Utf8Tabs_below HT.out B)
        rw [hT1, Lib.extract_upto] at h
        exact h)
      have HC : Hid (∀ W, Calls Tryd.prog 111 #[.string cut, .int .i32 ((decodeLastL (s.data.toList.take (m + 1))).1 : Int)] W fun e w' => e = .returned (.bool (pOf cut (decodeLastL (s.data.toList.take (m + 1))).1)) ∧ Below W.heap.size W w') := Lib.hid (fun W => by
        rw [pOf_has cut _ (decLast_scal _)]
        exact gbContainsRune cut _ W)
      have hms : m < s.size := by omega
      obtain ⟨x, hx⟩ : ∃ x, s[m]'hms = x := ⟨_, rfl⟩
      have hcell : wr.cell? ⟨b, o + m, none⟩ = some (.int .u8 (x.toNat : Int)) := by rw [← hx]; exact RW.out m hms
      have hxl : (s.data.toList.take (m + 1)).getD ((s.data.toList.take (m + 1)).length - 1) 0 = x := by
        rw [htl, Nat.add_sub_cancel, List.getD_eq_getElem?_getD, List.getElem?_take, if_pos (by omega), data_getElem? s m hms, hx]
        rfl
      have hasc : x.toNat < 128 → decodeLastL (s.data.toList.take (m + 1)) = (x.toNat, 1) := fun h => by
        unfold decodeLastL
        rw [if_neg (fun e => by rw [e] at htl; simp at htl), hxl, if_pos h]
      have hmz : ((m : Int)).toNat = m := by omega
      have hmc : (m : Int) < ((m : Int) + 1) := by omega
      have HEND : Hid (∀ K W2, m + 1 = K + (decodeLastL (s.data.toList.take (m + 1))).2 → Below w.heap.size w W2 → pOf cut (decodeLastL (s.data.toList.take (m + 1))).1 = true → BtrRel b o c cut s w (.slice (some ⟨b, o, none⟩) K c) W2) := Lib.hid (fun K W2 hK hB hp => by
        obtain ⟨f', rfl⟩ : ∃ f', f = f' + 1 := ⟨f - 1, by omega⟩
        refine ⟨K, f', rfl, by omega, by omega, ?_, hB⟩
        have h1 := HL.out
        rw [rightP, if_pos ⟨hlt, hp⟩] at h1
        rw [show K = m + 1 - (decodeLastL (s.data.toList.take (m + 1))).2 by omega]
        exact h1)
      have HSTOP : Hid (pOf cut (decodeLastL (s.data.toList.take (m + 1))).1 = false → Right (pOf cut) s.data.toList = m + 1) := Lib.hid (fun hp => by
        rw [← HL.out]
        cases f with
        | zero => rfl
        | succ f => rw [rightP, if_neg (fun h => by have h2 := h.2; rw [hp] at h2; cases h2)])
      obtain ⟨R, hR⟩ : ∃ R, (decodeLastL (s.data.toList.take (m + 1))).1 = R := ⟨_, rfl⟩
      obtain ⟨W0, hWd⟩ : ∃ W0, (decodeLastL (s.data.toList.take (m + 1))).2 = W0 := ⟨_, rfl⟩
      rw [hR, hWd] at HD
      rw [hR] at HC HSTOP
      rw [hR, hWd] at HEND
      rw [hWd] at hw
      have hasc2 : x.toNat < 128 → R = x.toNat ∧ W0 = 1 := fun h => by rw [← hR, ← hWd, hasc h]; exact ⟨rfl, rfl⟩
      obtain ⟨K, hK⟩ : ∃ K, m + 1 = K + W0 := ⟨m + 1 - W0, by omega⟩
      have e8 : IntKind.i64.wrap ((m : Int) + 1 - (W0 : Int)) = (K : Int) := by rw [IntKind.wrap_i64]; omega
      have e6 : (0 : Int) ≤ (K : Int) := by omega
      have e7 : (K : Int) ≤ (c : Int) := by omega
      have HK := Lib.hid hK
      have hw32 : wrap32 (x.toNat : Int) = (x.toNat : Int) := by have := x.toNat_lt; unfold wrap32; omega
      have HW := Lib.hid hw
      clear htl hxl hasc hR hWd hw hK hx hT1
      by_cases h128 : x.toNat < 128
      · obtain ⟨rfl, rfl⟩ := hasc2 h128
        have g1 : ¬ ((128 : Int) ≤ (x.toNat : Int)) := by omega
        obtain rfl : m = K := by have := HK.out; omega
        cases hp : pOf cut x.toNat with
        | true =>
          rw [hp] at HC
          have HP := Lib.hid hp
          clear hp hasc2 h128
          go_wp2_with (go_at_call 111; refine (HC.out _).mono ?_; rintro e w2 ⟨rfl, hB2⟩; have B2 : Below w.heap.size w w2 := B.trans (hB2.mono B.size))
          go_roundw
          case rel => exact HEND.out _ _ rfl B2 HP.out
          case measure => simp only [slLen]; omega
        | false =>
          rw [hp] at HC
          have HP := Lib.hid (HSTOP.out hp)
          clear hp hasc2 h128
          go_wp2_with (go_at_call 111; refine (HC.out _).mono ?_; rintro e w2 ⟨rfl, hB2⟩; have B2 : Below w.heap.size w w2 := B.trans (hB2.mono B.size))
          go_ret
          exact ⟨by rw [HP.out]; rfl, B2⟩
      · have g1 : (128 : Int) ≤ (x.toNat : Int) := by omega
        clear hasc2
        cases hp : pOf cut R with
        | true =>
          rw [hp] at HC
          have HP := Lib.hid hp
          clear hp h128
          go_wp2_with (first
            | (go_at_call 111; have B1' := B1; refine (HC.out _).mono ?_; rintro e w2 ⟨rfl, hB2⟩; have B2 : Below w.heap.size w w2 := B1.trans (hB2.mono B1.size))
            | (go_at_call 110; refine HD.out.mono ?_; rintro e w1 ⟨rfl, hB1⟩; have B1 : Below w.heap.size w w1 := B.trans (hB1.mono B.size)))
          go_roundw
          case rel => exact HEND.out _ _ HK.out B2 HP.out
          case measure => have := HK.out; have := HW.out; simp only [slLen]; omega
        | false =>
          rw [hp] at HC
          have HP := Lib.hid (HSTOP.out hp)
          clear hp h128
          go_wp2_with (first
            | (go_at_call 111; have B1' := B1; refine (HC.out _).mono ?_; rintro e w2 ⟨rfl, hB2⟩; have B2 : Below w.heap.size w w2 := B1.trans (hB2.mono B1.size))
            | (go_at_call 110; refine HD.out.mono ?_; rintro e w1 ⟨rfl, hB1⟩; have B1 : Below w.heap.size w w1 := B.trans (hB1.mono B.size)))
          go_ret
          exact ⟨by rw [HP.out]; rfl, B2⟩
    · obtain rfl : i = 0 := by omega
      have hstop : Right (pOf cut) s.data.toList = 0 := by
        rw [← HL.out]
        cases f with
        | zero => rfl
        | succ f => rw [rightP, if_neg (fun h => hlt h.1)]
      have HS := Lib.hid hstop
      have e0 : ¬ ((0 : Int) < ((0 : Nat) : Int)) := by omega
      clear hstop hlt
      go_wp2_with fail
      go_ret
      exact ⟨by rw [HS.out]; rfl, B⟩
end Go.Proofs.YthnbifkcbeldmaaDoor
