/- gostrings.Trim, TrimLeft, TrimRight at every cutset; the law FnTrimTwice. -/
import Derived.Test.YthnbifkcbeldmaaDoorTrimA
import Derived.Test.YthnbifkcbeldmaaDoorTrimP
import Derived.Test.YthnbifkcbeldmaaDoorRuneAt
import Derived.Lib.IndexMore
namespace Go.Proofs.YthnbifkcbeldmaaDoor
open Go.Shelf Go.RowKit Go.Lib
set_option linter.unusedVariables false

/-- the code points of a text -/
def pOf (cut : ByteArray) (r : Nat) : Bool := decide (0 ≤ irOf cut (r : Int))
theorem firstOf_mem (s : ByteArray) (r : Nat) : ∀ l, 0 ≤ firstOf s r l → ∃ i ∈ l, (Utf8.decode s i).1 = r
  | [], h => by simp [firstOf] at h
  | i :: l, h => by
    unfold firstOf at h
    split at h
    next e => exact ⟨i, List.mem_cons_self, e⟩
    next e =>
      obtain ⟨j, hj, h2⟩ := firstOf_mem s r l h
      exact ⟨j, List.mem_cons_of_mem _ hj, h2⟩
theorem dec_list (s : ByteArray) (i : Nat) : Utf8.decode s i = decodeL (s.data.toList.drop i) := (decodeL_drop s i).symm
theorem enc_head (n : Nat) (h : 128 ≤ n) : ∃ c t, (Utf8.encode (n : Int)).data.toList = c :: t ∧ 192 ≤ c.toNat := by
  by_cases h1 : n < 2048
  · exact ⟨_, _, Go.Extern.FmtText.enc2 n (by omega) h1, by rw [UInt8.toNat_ofNat']; omega⟩
  by_cases h2 : (55296 ≤ n ∧ n ≤ 57343) ∨ 1114111 < n
  · exact ⟨_, _, Go.Extern.FmtText.encBad n h2, by decide⟩
  by_cases h3 : n < 65536
  · exact ⟨_, _, Go.Extern.FmtText.enc3 n h1 h3 (by omega), by rw [UInt8.toNat_ofNat']; omega⟩
  · exact ⟨_, _, Go.Extern.FmtText.enc4 n h3 (by omega), by rw [UInt8.toNat_ofNat']; omega⟩
theorem pOf_ascii {cut : ByteArray} (ha : ∀ c ∈ cut.data.toList, c.toNat < 128) (r : Nat) : pOf cut r = true ↔ ∃ c ∈ cut.data.toList, c.toNat = r ∧ c.toNat < 128 := by
  unfold pOf irOf
  rw [decide_eq_true_iff]
  by_cases h0 : (0 : Int) ≤ (r : Int) ∧ (r : Int) < 128
  · rw [if_pos h0]
    have h := contains_iff_indexByte cut.data.toList ((r : Int).toNat.toUInt8)
    have hr : ((r : Int).toNat.toUInt8).toNat = r := by simp; omega
    constructor
    · intro h1
      rw [decide_eq_true h1] at h
      exact ⟨_, by simpa using h, hr, by omega⟩
    · rintro ⟨c, hc, hcr, _⟩
      have e : c = (r : Int).toNat.toUInt8 := UInt8.toNat_inj.1 (by omega)
      rw [← e] at h
      have h2 : cut.data.toList.contains c = true := by simpa using hc
      rw [h2] at h
      rw [← e]
      exact of_decide_eq_true h.symm
  · rw [if_neg h0]
    have no : ¬ ∃ c ∈ cut.data.toList, c.toNat = r ∧ c.toNat < 128 := by
      rintro ⟨c, _, h1, h2⟩
      omega
    refine ⟨fun h => absurd h ?_, fun h => absurd h no⟩
    by_cases h1 : (r : Int) = 65533
    · rw [if_pos h1]
      intro h
      obtain ⟨i, hi, hd⟩ := firstOf_mem cut 65533 _ h
      have hlt := starts_lt cut i hi
      rw [dec_list, decL_at] at hd
      have hi2 : i < cut.data.toList.length := by rw [← Lib.size_eq]; exact hlt
      have hb : (cut.data.toList.getD i 0).toNat < 128 := by
        rw [List.getD_eq_getElem?_getD, List.getElem?_eq_getElem hi2]
        exact ha _ (List.getElem_mem hi2)
      rw [decodeN_ascii _ _ _ _ _ hb] at hd
      simp only at hd
      omega
    · rw [if_neg h1]
      split
      · intro h
        obtain ⟨k, hk⟩ : ∃ k : Nat, Lib.index cut.data.toList (Utf8.encode (r : Int)).data.toList = (k : Int) := ⟨(Lib.index cut.data.toList (Utf8.encode (r : Int)).data.toList).toNat, by omega⟩
        obtain ⟨c, t, he, hc⟩ := enc_head r (by omega)
        have ho : occAt cut.data.toList (Utf8.encode (r : Int)).data.toList k = true := by
          rcases Lib.index_spec cut.data.toList (Utf8.encode (r : Int)).data.toList with ⟨h1, _⟩ | ⟨i, h1, _, h3, _⟩
          · omega
          · rw [show k = i by omega]; exact h3
        have := Lib.occAt_head he ho
        have := ha c (List.mem_of_getElem? this)
        omega
      · omega
theorem pOf_nil (r : Nat) : pOf ⟨#[]⟩ r = false := by
  cases h : pOf ⟨#[]⟩ r with
  | false => rfl
  | true =>
    obtain ⟨c, hc, _⟩ := (pOf_ascii (cut := ⟨#[]⟩) (fun c hc => by cases hc) r).1 h
    cases hc
theorem trim_none {p : Nat → Bool} (h : ∀ r, p r = false) (l : List UInt8) : trimL p l = l ∧ trimR p l = l := by
  have h1 : Left p l = 0 := Left_eq (St.zero l) (fun j _ hj => absurd hj (Nat.not_lt_zero _)) (fun _ => h _)
  have h2 : Right p l = l.length := Right_eq (St.len l) (fun j _ h1 h2 => by omega) (fun h0 => by
    obtain ⟨j, hj, hjl, _, hw⟩ := (St.len l).pred h0
    exact ⟨j, hj, hjl, hw, h _⟩)
  exact ⟨by rw [trimL, h1, List.drop_zero], by rw [trimR, h2, List.take_length]⟩

def TlRel (w : World) (cut s : ByteArray) (v0 : Value) (wr : World) : Prop := ∃ i f : Nat, v0 = .string ⟨(s.data.toList.drop i).toArray⟩ ∧ i ≤ s.data.toList.length ∧ s.data.toList.length ≤ i + f ∧ leftP (pOf cut) s.data.toList f i = Left (pOf cut) s.data.toList ∧ Below w.heap.size w wr
set_option maxHeartbeats 3200000 in
set_option maxRecDepth 100000 in
theorem trimLeftUnicode (s cut : ByteArray) (w : World) (hs : s.size ≤ 9223372036854775807) (hc : cut.size < 4294967281) (hT : Utf8Tabs 2 3 w) :
    Calls Tryd.prog 97 #[.string s, .string cut] w fun e w' => e = .returned (.string ⟨(trimL (pOf cut) s.data.toList).toArray⟩) ∧ Below w.heap.size w w' := by
  have HT := Lib.hid hT
  have hnot : ∀ (x : Bool) (w : World), (Op.unary .not (.bool x)).run Tryd.prog w = .ok (.bool (!x)) w := fun _ _ => rfl
  clear hT
  go_enter Tryd.func97, Tryd.ntmps97
  go_wp2_with fail
  go_loopw [0] (TlRel w cut s) (fun v _ => Lib.strSize v)
  case atStart => exact ⟨0, s.data.toList.length, by simp, Nat.zero_le _, by omega, rfl, Below.refl _ _⟩
  case round =>
    obtain ⟨i, f, rfl, hi, hf, hl, B⟩ := hrel
    have HL := Lib.hid hl
    clear hl
    have hsl : s.data.toList.length = s.size := (Lib.size_eq s).symm
    have hts : (⟨(s.data.toList.drop i).toArray⟩ : ByteArray).size = s.data.toList.length - i := by rw [Lib.size_mk, List.length_drop]
    obtain ⟨t, ht⟩ : ∃ t : ByteArray, t = ⟨(s.data.toList.drop i).toArray⟩ := ⟨_, rfl⟩
    rw [← ht] at hts ⊢
    by_cases hlt : i < s.data.toList.length
    · have hgo : decodeGo t = decodeL (s.data.toList.drop i) := by
        unfold decodeGo decodeL
        rw [if_neg (by omega), ht]
      have hw := wd_le s.data.toList i hlt
      have HD : Hid (∀ W, Below w.heap.size w W → Calls Tryd.prog 84 #[.string t] W fun e w' => e = .returned (.tuple #[.int .i32 (rn s.data.toList i : Int), .int .i64 (wd s.data.toList i : Int)]) ∧ Below W.heap.size W w') := Lib.hid (fun W hB => by
        have h := Tryd.utf8_DecodeRuneInString t W (Utf8Tabs_below HT.out hB)
        rw [hgo] at h
        exact h)
      have hx1 : t.extract (wd s.data.toList i) t.size = ⟨(s.data.toList.drop (i + wd s.data.toList i)).toArray⟩ := by
        rw [hts, ht, Lib.extract_mk, List.drop_drop, List.take_of_length_le (by simp; omega)]
      have HX := Lib.hid hx1
      have HC : Hid (∀ W, Calls Tryd.prog 132 #[.string cut, .int .i32 (rn s.data.toList i : Int)] W fun e w' => e = .returned (.bool (pOf cut (rn s.data.toList i))) ∧ Below W.heap.size W w') := Lib.hid (fun W => gContainsRune cut _ W hc)
      have HW := Lib.hid hw
      have e0 : (0 : Int) < (t.size : Int) := by omega
      have HTS := Lib.hid hts
      have HTT := Lib.hid ht
      cases hp : pOf cut (rn s.data.toList i) with
      | true =>
        rw [hp] at HC
        obtain ⟨f', rfl⟩ : ∃ f', f = f' + 1 := ⟨f - 1, by omega⟩
        have hstep : leftP (pOf cut) s.data.toList f' (i + wd s.data.toList i) = Left (pOf cut) s.data.toList := by
          have h1 := HL.out
          rw [leftP, if_pos ⟨hlt, hp⟩] at h1
          exact h1
        have HST := Lib.hid hstep
        generalize hR : rn s.data.toList i = R at *
        generalize hWd : wd s.data.toList i = W0 at *
        have e1 : (0 : Int) ≤ (W0 : Int) := by omega
        have e2 : (W0 : Int) ≤ (t.size : Int) := by omega
        clear hgo hx1 hp hstep ht hts hw
        go_wp2_with (first
          | (go_at_call 132; have B1' := B1; refine (HC.out _).mono ?_; rintro e w2 ⟨rfl, hB2⟩; have B2 : Below w.heap.size w w2 := B1.trans (hB2.mono B1.size))
          | (go_at_call 84; refine (HD.out _ B).mono ?_; rintro e w1 ⟨rfl, hB1⟩; have B1 : Below w.heap.size w w1 := B.trans (hB1.mono B.size)))
        go_roundw
        case rel => exact ⟨i + W0, f', by rw [HX.out], by have := HW.out; omega, by have := HW.out; omega, HST.out, B2⟩
        case measure =>
          rw [Lib.strSize_string, Lib.strSize_string, HX.out, Lib.size_mk, List.length_drop, HTS.out]
          have := HW.out
          omega
      | false =>
        rw [hp] at HC
        have hstop : Left (pOf cut) s.data.toList = i := by
          rw [← HL.out]
          cases f with
          | zero => rfl
          | succ f => rw [leftP, if_neg (fun h => by have h2 := h.2; unfold rn at hp; rw [hp] at h2; cases h2)]
        have HS := Lib.hid hstop
        generalize hR : rn s.data.toList i = R at *
        generalize hWd : wd s.data.toList i = W0 at *
        clear hgo hx1 hp hstop ht hts hw
        go_wp2_with (first
          | (go_at_call 132; have B1' := B1; refine (HC.out _).mono ?_; rintro e w2 ⟨rfl, hB2⟩; have B2 : Below w.heap.size w w2 := B1.trans (hB2.mono B1.size))
          | (go_at_call 84; refine (HD.out _ B).mono ?_; rintro e w1 ⟨rfl, hB1⟩; have B1 : Below w.heap.size w w1 := B.trans (hB1.mono B.size)))
        go_ret
        exact ⟨by rw [trimL, HS.out, ← HTT.out]; rfl, B2⟩
    · have hi2 : i = s.data.toList.length := by omega
      have hz : t.size = 0 := by omega
      have hstop : Left (pOf cut) s.data.toList = i := by
        rw [← HL.out]
        cases f with
        | zero => rfl
        | succ f => rw [leftP, if_neg (fun h => hlt h.1)]
      have HS := Lib.hid hstop
      have HTT := Lib.hid ht
      have e0 : ¬ ((0 : Int) < (t.size : Int)) := by omega
      clear hstop ht hts hlt hi2 hz
      go_wp2_with fail
      go_ret
      exact ⟨by rw [trimL, HS.out, ← HTT.out]; rfl, B⟩
def TrRel (w : World) (cut s : ByteArray) (v0 : Value) (wr : World) : Prop := ∃ i f : Nat, v0 = .string ⟨(s.data.toList.take i).toArray⟩ ∧ i ≤ s.data.toList.length ∧ i ≤ f ∧ rightP (pOf cut) s.data.toList f i = Right (pOf cut) s.data.toList ∧ Below w.heap.size w wr
set_option maxHeartbeats 3200000 in
set_option maxRecDepth 100000 in
theorem trimRightUnicode (s cut : ByteArray) (w : World) (hs : s.size ≤ 9223372036854775807) (hc : cut.size < 4294967281) (hT : Utf8Tabs 2 3 w) :
    Calls Tryd.prog 100 #[.string s, .string cut] w fun e w' => e = .returned (.string ⟨(trimR (pOf cut) s.data.toList).toArray⟩) ∧ Below w.heap.size w w' := by
  have HT := Lib.hid hT
  have hnot : ∀ (x : Bool) (w : World), (Op.unary .not (.bool x)).run Tryd.prog w = .ok (.bool (!x)) w := fun _ _ => rfl
  clear hT
  go_enter Tryd.func100, Tryd.ntmps100
  go_wp2_with fail
  go_loopw [0] (TrRel w cut s) (fun v _ => Lib.strSize v)
  case atStart => exact ⟨s.data.toList.length, s.data.toList.length, by rw [List.take_length, Lib.mk_data], Nat.le_refl _, Nat.le_refl _, rfl, Below.refl _ _⟩
  case round =>
    obtain ⟨i, f, rfl, hi, hf, hl, B⟩ := hrel
    have HL := Lib.hid hl
    clear hl
    have hsl : s.data.toList.length = s.size := (Lib.size_eq s).symm
    have htl : (s.data.toList.take i).length = i := by rw [List.length_take]; omega
    have hts : (⟨(s.data.toList.take i).toArray⟩ : ByteArray).size = i := by rw [Lib.size_mk, htl]
    obtain ⟨t, ht⟩ : ∃ t : ByteArray, t = ⟨(s.data.toList.take i).toArray⟩ := ⟨_, rfl⟩
    have htd : t.data.toList = s.data.toList.take i := by rw [ht]
    rw [← ht] at hts ⊢
    by_cases hlt : 0 < i
    · have hw := decodeLastL_width (s.data.toList.take i) (by omega)
      rw [htl] at hw
      have HD : Hid (∀ W, Below w.heap.size w W → Calls Tryd.prog 79 #[.string t] W fun e w' => e = .returned (.tuple #[.int .i32 ((decodeLastL (s.data.toList.take i)).1 : Int), .int .i64 ((decodeLastL (s.data.toList.take i)).2 : Int)]) ∧ Below W.heap.size W w') := Lib.hid (fun W hB => by
        have h := Tryd.utf8_DecodeLastRuneInString t W (by omega) (Utf8Tabs_below HT.out hB)
        rw [htd] at h
        exact h)
      have hx1 : t.extract 0 (i - (decodeLastL (s.data.toList.take i)).2) = ⟨(s.data.toList.take (i - (decodeLastL (s.data.toList.take i)).2)).toArray⟩ := by
        rw [ht, Lib.extract_mk, List.drop_zero, List.take_take, Nat.sub_zero, Nat.min_eq_left (by omega)]
      have HX := Lib.hid hx1
      have HC : Hid (∀ W, Calls Tryd.prog 132 #[.string cut, .int .i32 ((decodeLastL (s.data.toList.take i)).1 : Int)] W fun e w' => e = .returned (.bool (pOf cut (decodeLastL (s.data.toList.take i)).1)) ∧ Below W.heap.size W w') := Lib.hid (fun W => gContainsRune cut _ W hc)
      have HW := Lib.hid hw
      have e0 : (0 : Int) < (t.size : Int) := by omega
      have e00 : (0 : Int) < (i : Int) := by omega
      have e3 : (i : Int) - 1 = ((i - 1 : Nat) : Int) := by omega
      have e4 : ((i - 1 : Nat) : Int) < (i : Int) := by omega
      have e5 : (0 : Int) ≤ ((i - 1 : Nat) : Int) := by omega
      have HTT := Lib.hid ht
      have hit : i - 1 < t.size := by omega
      obtain ⟨x, hx⟩ : ∃ x, t[i - 1]'hit = x := ⟨_, rfl⟩
      have hxl : (s.data.toList.take i).getD ((s.data.toList.take i).length - 1) 0 = x := by
        rw [htl, ← htd, List.getD_eq_getElem?_getD, getAt t (i - 1) hit, hx]
        rfl
      have hasc : x.toNat < 128 → decodeLastL (s.data.toList.take i) = (x.toNat, 1) := fun h => by
        unfold decodeLastL
        rw [if_neg (fun e => by rw [e] at htl; simp at htl; omega), hxl, if_pos h]
      have HEND : Hid (∀ W2, Below w.heap.size w W2 → pOf cut (decodeLastL (s.data.toList.take i)).1 = true → TrRel w cut s (.string (t.extract 0 (i - (decodeLastL (s.data.toList.take i)).2))) W2) := Lib.hid (fun W2 hB hp => by
        obtain ⟨f', rfl⟩ : ∃ f', f = f' + 1 := ⟨f - 1, by omega⟩
        refine ⟨i - (decodeLastL (s.data.toList.take i)).2, f', by rw [HX.out], by omega, by omega, ?_, hB⟩
        have h1 := HL.out
        rw [rightP, if_pos ⟨hlt, hp⟩] at h1
        exact h1)
      have HSTOP : Hid (pOf cut (decodeLastL (s.data.toList.take i)).1 = false → Right (pOf cut) s.data.toList = i) := Lib.hid (fun hp => by
        rw [← HL.out]
        cases f with
        | zero => rfl
        | succ f => rw [rightP, if_neg (fun h => by have h2 := h.2; rw [hp] at h2; cases h2)])
      have HTSI : Hid (t.size = i) := Lib.hid hts
      have HXS : Hid ((t.extract 0 (i - (decodeLastL (s.data.toList.take i)).2)).size < t.size) := Lib.hid (by
        rw [HX.out, Lib.size_mk, List.length_take, hts]; omega)
      obtain ⟨R, hR⟩ : ∃ R, (decodeLastL (s.data.toList.take i)).1 = R := ⟨_, rfl⟩
      obtain ⟨W0, hWd⟩ : ∃ W0, (decodeLastL (s.data.toList.take i)).2 = W0 := ⟨_, rfl⟩
      rw [hR, hWd] at HD
      rw [hR] at HC HSTOP
      rw [hR, hWd] at HEND
      rw [hWd] at HW hw HXS
      have hasc2 : x.toNat < 128 → R = x.toNat ∧ W0 = 1 := fun h => by rw [← hR, ← hWd, hasc h]; exact ⟨rfl, rfl⟩
      have e1 : (W0 : Int) ≤ (i : Int) := by omega
      have e2 : (i : Int) - (W0 : Int) = ((i - W0 : Nat) : Int) := by omega
      have e6 : (0 : Int) ≤ ((i - W0 : Nat) : Int) := by omega
      have e7 : ((i - W0 : Nat) : Int) ≤ (i : Int) := by omega
      have e8 : IntKind.i64.wrap ((i : Int) - (W0 : Int)) = ((i - W0 : Nat) : Int) := by rw [IntKind.wrap_i64]; omega
      have e9 : IntKind.i64.wrap ((i : Int) - 1) = ((i - 1 : Nat) : Int) := by rw [IntKind.wrap_i64]; omega
      have hw32 : wrap32 (x.toNat : Int) = (x.toNat : Int) := by have := x.toNat_lt; unfold wrap32; omega
      clear hx1 ht htd hw hxl hasc hR hWd
      by_cases h128 : x.toNat < 128
      · obtain ⟨rfl, rfl⟩ := hasc2 h128
        have g1 : ¬ ((128 : Int) ≤ (x.toNat : Int)) := by omega
        cases hp : pOf cut x.toNat with
        | true =>
          rw [hp] at HC
          have HP := Lib.hid hp
          clear hp hasc2 h128
          go_wp2_with (go_at_call 132; refine (HC.out _).mono ?_; rintro e w2 ⟨rfl, hB2⟩; have B2 : Below w.heap.size w w2 := B.trans (hB2.mono B.size))
          go_roundw
          case rel => exact HEND.out _ B2 HP.out
          case measure => rw [Lib.strSize_string, Lib.strSize_string]; exact HXS.out
        | false =>
          rw [hp] at HC
          have HP := Lib.hid (HSTOP.out hp)
          clear hp hasc2 h128
          go_wp2_with (go_at_call 132; refine (HC.out _).mono ?_; rintro e w2 ⟨rfl, hB2⟩; have B2 : Below w.heap.size w w2 := B.trans (hB2.mono B.size))
          go_ret
          exact ⟨by rw [trimR, HP.out, ← HTT.out]; rfl, B2⟩
      · have g1 : (128 : Int) ≤ (x.toNat : Int) := by omega
        clear hasc2
        cases hp : pOf cut R with
        | true =>
          rw [hp] at HC
          have HP := Lib.hid hp
          clear hp h128
          go_wp2_with (first
            | (go_at_call 132; have B1' := B1; refine (HC.out _).mono ?_; rintro e w2 ⟨rfl, hB2⟩; have B2 : Below w.heap.size w w2 := B1.trans (hB2.mono B1.size))
            | (go_at_call 79; refine (HD.out _ B).mono ?_; rintro e w1 ⟨rfl, hB1⟩; have B1 : Below w.heap.size w w1 := B.trans (hB1.mono B.size)))
          go_roundw
          case rel => exact HEND.out _ B2 HP.out
          case measure => rw [Lib.strSize_string, Lib.strSize_string]; exact HXS.out
        | false =>
          rw [hp] at HC
          have HP := Lib.hid (HSTOP.out hp)
          clear hp h128
          go_wp2_with (first
            | (go_at_call 132; have B1' := B1; refine (HC.out _).mono ?_; rintro e w2 ⟨rfl, hB2⟩; have B2 : Below w.heap.size w w2 := B1.trans (hB2.mono B1.size))
            | (go_at_call 79; refine (HD.out _ B).mono ?_; rintro e w1 ⟨rfl, hB1⟩; have B1 : Below w.heap.size w w1 := B.trans (hB1.mono B.size)))
          go_ret
          exact ⟨by rw [trimR, HP.out, ← HTT.out]; rfl, B2⟩
    · obtain rfl : i = 0 := by omega
      have hstop : Right (pOf cut) s.data.toList = 0 := by
        rw [← HL.out]
        cases f with
        | zero => rfl
        | succ f => rw [rightP, if_neg (fun h => hlt h.1)]
      have HS := Lib.hid hstop
      have HTT := Lib.hid ht
      have e0 : ¬ ((0 : Int) < (t.size : Int)) := by omega
      clear hstop ht htd hlt
      go_wp2_with fail
      go_ret
      exact ⟨by rw [trimR, HS.out, ← HTT.out]; rfl, B⟩
end Go.Proofs.YthnbifkcbeldmaaDoor
