/- The reference's trims are the program's; the law FnStrTrim. -/
import Derived.Test.YthnbifkcbeldmaaDoorSpecTrim
import Derived.Test.YthnbifkcbeldmaaDoorLwTrim2
import Derived.Lib.MapLaws
namespace Go.Proofs.YthnbifkcbeldmaaDoor
open Go.Shelf Go.RowKit Go.Lib
set_option linter.unusedVariables false

theorem tail_St (s : ByteArray) : ∀ (f pos : Nat), St s.data.toList pos → s.size ≤ pos + f → ∀ i, i ∈ tailStarts s pos ↔ St s.data.toList i ∧ pos ≤ i ∧ i < s.size
  | 0, pos, hs, hf, i => by
    rw [tailStarts_end s pos (by omega)]
    constructor
    · intro h; cases h
    · rintro ⟨_, h1, h2⟩; omega
  | f + 1, pos, hs, hf, i => by
    have hz : s.data.toList.length = s.size := (Lib.size_eq s).symm
    by_cases hp : pos < s.size
    · have hw : (Utf8.decode s pos).2 = wd s.data.toList pos := by unfold wd; rw [dec_list]
      have h1 := wd_le s.data.toList pos (by omega)
      rw [tailStarts_step s pos hp, hw, List.mem_cons, tail_St s f _ (hs.next (by omega)) (by omega) i]
      constructor
      · rintro (rfl | ⟨h2, h3, h4⟩)
        · exact ⟨hs, Nat.le_refl _, hp⟩
        · exact ⟨h2, by omega, h4⟩
      · rintro ⟨h2, h3, h4⟩
        by_cases e : i = pos
        · exact .inl e
        · exact .inr ⟨h2, hs.chain h2 (by omega), h4⟩
    · rw [tailStarts_end s pos hp]
      constructor
      · intro h; cases h
      · rintro ⟨_, h1, h2⟩; omega
theorem mem_starts (s : ByteArray) (i : Nat) : i ∈ starts s ↔ St s.data.toList i ∧ i < s.size := by
  rw [← tailStarts_zero, tail_St s s.size 0 (St.zero _) (by omega)]
  exact ⟨fun ⟨h1, _, h3⟩ => ⟨h1, h3⟩, fun ⟨h1, h3⟩ => ⟨h1, Nat.zero_le _, h3⟩⟩
theorem tail_sorted (s : ByteArray) : ∀ (f pos : Nat), s.size ≤ pos + f → (tailStarts s pos).Pairwise (· < ·)
  | 0, pos, hf => by rw [tailStarts_end s pos (by omega)]; exact List.Pairwise.nil
  | f + 1, pos, hf => by
    by_cases hp : pos < s.size
    · have hw := decode_width_pos s pos hp
      rw [tailStarts_step s pos hp]
      refine List.Pairwise.cons (fun x hx => ?_) (tail_sorted s f _ (by omega))
      have := (tailStarts_ge s s.size _ (by omega) x hx).1
      omega
    · rw [tailStarts_end s pos hp]; exact List.Pairwise.nil
/-- a code point as UTF-8 has it -/
def Scal (r : Nat) : Prop := r < 128 ∨ (128 ≤ r ∧ r ≤ 1114111 ∧ (r < 55296 ∨ 57343 < r))
theorem rn_scal (l : List UInt8) (i : Nat) : Scal (rn l i) := by
  unfold rn Scal
  rw [decL_at]
  have hb := (l.getD i 0).toNat_lt
  unfold decodeN
  repeat' split
  all_goals (simp only; omega)
theorem firstOf_nonneg (s : ByteArray) (r : Nat) : ∀ l, (∃ i ∈ l, (Utf8.decode s i).1 = r) → 0 ≤ firstOf s r l
  | [], h => by obtain ⟨i, hi, _⟩ := h; cases hi
  | j :: l, h => by
    unfold firstOf
    split
    · omega
    next hne =>
      refine firstOf_nonneg s r l ?_
      obtain ⟨i, hi, hd⟩ := h
      rcases List.mem_cons.1 hi with rfl | hi
      · exact absurd hd hne
      · exact ⟨i, hi, hd⟩
theorem hasR_iff (cut : ByteArray) (r : Nat) : hasR cut r = true ↔ ∃ i ∈ starts cut, (Utf8.decode cut i).1 = r := by
  unfold hasR
  rw [List.any_eq_true]
  constructor
  · rintro ⟨i, hi, h⟩; exact ⟨i, hi, by unfold isR at h; exact beq_iff_eq.1 h⟩
  · rintro ⟨i, hi, h⟩; exact ⟨i, hi, by unfold isR; exact beq_iff_eq.2 h⟩
theorem encRune_eq (r : Nat) (h0 : 128 ≤ r) (h1 : r ≤ 1114111) (h2 : r < 55296 ∨ 57343 < r) : Lib.encodeRune (r : Int) = (Utf8.encode (r : Int)).data.toList := by
  unfold Lib.encodeRune
  by_cases a : r < 2048
  · rw [Lib.encodeRuneZ_two (by omega) (by omega), Go.Extern.FmtText.enc2 r (by omega) a]
    simp only [List.map_cons, List.map_nil]
    rw [show (192 + (r : Int) / 64).toNat = 192 + r / 64 by omega, show (128 + (r : Int) % 64).toNat = 128 + r % 64 by omega]
  by_cases b : r < 65536
  · rw [Lib.encodeRuneZ_three (by omega), Go.Extern.FmtText.enc3 r a b (by omega)]
    simp only [List.map_cons, List.map_nil]
    rw [show (224 + (r : Int) / 4096).toNat = 224 + r / 4096 by omega, show (128 + (r : Int) / 64 % 64).toNat = 128 + r / 64 % 64 by omega, show (128 + (r : Int) % 64).toNat = 128 + r % 64 by omega]
  · rw [Lib.encodeRuneZ_four (by omega) (by omega), Go.Extern.FmtText.enc4 r b h1]
    simp only [List.map_cons, List.map_nil]
    rw [show (240 + (r : Int) / 262144).toNat = 240 + r / 262144 by omega, show (128 + (r : Int) / 4096 % 64).toNat = 128 + r / 4096 % 64 by omega, show (128 + (r : Int) / 64 % 64).toNat = 128 + r / 64 % 64 by omega, show (128 + (r : Int) % 64).toNat = 128 + r % 64 by omega]
theorem ofNat_lt {n : Nat} (h : n < 256) : (UInt8.ofNat n).toNat = n := by rw [UInt8.toNat_ofNat']; omega
theorem dec_enc (r : Nat) (h0 : 128 ≤ r) (h1 : r ≤ 1114111) (h2 : r < 55296 ∨ 57343 < r) (t : List UInt8) : (decodeL ((Utf8.encode (r : Int)).data.toList ++ t)).1 = r := by
  rw [decodeL_N]
  by_cases a : r < 2048
  · rw [Go.Extern.FmtText.enc2 r (by omega) a]
    simp only [List.cons_append, List.nil_append, List.length_cons, List.getD_cons_zero, List.getD_cons_succ]
    rw [ofNat_lt (by omega), ofNat_lt (by omega)]
    unfold decodeN
    repeat' split
    all_goals (try first | (exfalso; omega) | (simp only; omega))
  by_cases b : r < 65536
  · rw [Go.Extern.FmtText.enc3 r a b (by omega)]
    simp only [List.cons_append, List.nil_append, List.length_cons, List.getD_cons_zero, List.getD_cons_succ]
    rw [ofNat_lt (by omega), ofNat_lt (by omega), ofNat_lt (by omega)]
    unfold decodeN
    repeat' split
    all_goals first | (exfalso; omega) | (simp only; omega)
  · rw [Go.Extern.FmtText.enc4 r b h1]
    simp only [List.cons_append, List.nil_append, List.length_cons, List.getD_cons_zero, List.getD_cons_succ]
    rw [ofNat_lt (by omega), ofNat_lt (by omega), ofNat_lt (by omega), ofNat_lt (by omega)]
    unfold decodeN
    repeat' split
    all_goals first | (exfalso; omega) | (simp only; omega)
theorem valid_scal {r : Nat} (h1 : r ≤ 1114111) (h2 : r < 55296 ∨ 57343 < r) : Lib.validRune (r : Int) = true := by
  unfold Lib.validRune
  simp
  omega
/-- a code point is found where one of the text's is it -/
theorem pOf_has (cut : ByteArray) (r : Nat) (hr : Scal r) : pOf cut r = hasR cut r := by
  have hz : cut.data.toList.length = cut.size := (Lib.size_eq cut).symm
  have key : pOf cut r = true ↔ hasR cut r = true := by
    rw [hasR_iff]
    unfold pOf irOf
    rw [decide_eq_true_iff]
    rcases hr with hr | ⟨h0, h1, h2⟩
    · rw [if_pos (by omega)]
      have h := contains_iff_indexByte cut.data.toList ((r : Int).toNat.toUInt8)
      have hrr : ((r : Int).toNat.toUInt8).toNat = r := by simp; omega
      generalize (r : Int).toNat.toUInt8 = c at *
      constructor
      · intro hi
        rw [decide_eq_true hi] at h
        have hm : c ∈ cut.data.toList := by simpa using h
        obtain ⟨k, hk, he⟩ := List.mem_iff_getElem.1 hm
        have hg : cut.data.toList.getD k 0 = c := by rw [List.getD_eq_getElem?_getD, List.getElem?_eq_getElem hk, he]; rfl
        refine ⟨k, (mem_starts cut k).2 ⟨lead hk (by rw [hg]; omega), by omega⟩, ?_⟩
        rw [dec_list, decL_at, hg, decodeN_ascii _ _ _ _ _ (by omega)]
        exact hrr
      · rintro ⟨i, hi, hd⟩
        obtain ⟨_, hlt⟩ := (mem_starts cut i).1 hi
        rw [dec_list, decL_at] at hd
        have hb : (cut.data.toList.getD i 0).toNat < 128 := by
          apply Nat.lt_of_not_le
          intro hge
          have h3 : 128 ≤ (decodeN (cut.data.toList.length - i) (cut.data.toList.getD i 0).toNat (cut.data.toList.getD (i + 1) 0).toNat (cut.data.toList.getD (i + 2) 0).toNat (cut.data.toList.getD (i + 3) 0).toNat).1 := by
            unfold decodeN
            repeat' split
            all_goals (simp only; omega)
          omega
        rw [decodeN_ascii _ _ _ _ _ hb] at hd
        have hi2 : i < cut.data.toList.length := by omega
        have hc : cut.data.toList.getD i 0 = c := UInt8.toNat_inj.1 (by rw [hrr]; exact hd)
        have hm : cut.data.toList.contains c = true := by
          rw [← hc, List.getD_eq_getElem?_getD, List.getElem?_eq_getElem hi2]
          simp
        rw [hm] at h
        exact of_decide_eq_true h.symm
    · rw [if_neg (by omega)]
      by_cases he : (r : Int) = 65533
      · rw [if_pos he]
        have : r = 65533 := by omega
        subst this
        exact ⟨fun h => firstOf_mem cut 65533 _ h, fun h => firstOf_nonneg cut 65533 _ h⟩
      · rw [if_neg he, if_pos (valid_scal h1 h2)]
        constructor
        · intro hi
          rcases Lib.index_spec cut.data.toList (Utf8.encode (r : Int)).data.toList with ⟨h3, _⟩ | ⟨k, h3, h4, h5, _⟩
          · omega
          obtain ⟨c, t, hct, hc⟩ := enc_head r h0
          have hh := Lib.occAt_head hct h5
          have hk := (List.getElem?_eq_some_iff.1 hh).1
          have hg : cut.data.toList.getD k 0 = c := by rw [List.getD_eq_getElem?_getD, hh]; rfl
          have hcl := c.toNat_lt
          refine ⟨k, (mem_starts cut k).2 ⟨lead hk (by rw [hg]; omega), by omega⟩, ?_⟩
          unfold occAt at h5
          obtain ⟨rest, hrest⟩ := List.isPrefixOf_iff_prefix.1 h5
          rw [dec_list, ← hrest]
          exact dec_enc r h0 h1 h2 rest
        · rintro ⟨i, hi, hd⟩
          obtain ⟨_, hlt⟩ := (mem_starts cut i).1 hi
          rw [dec_list] at hd
          have hne : cut.data.toList.drop i ≠ [] := fun h => by
            have := congrArg List.length h
            rw [List.length_drop] at this
            simp at this
            omega
          have henc := Lib.encode_decode (cut.data.toList.drop i) hne (fun h => by omega)
          rw [hd, encRune_eq r h0 h1 h2] at henc
          have hocc : occAt cut.data.toList (Utf8.encode (r : Int)).data.toList i = true := by
            unfold occAt
            rw [List.isPrefixOf_iff_prefix, henc]
            exact List.take_prefix _ _
          rcases Lib.index_spec cut.data.toList (Utf8.encode (r : Int)).data.toList with ⟨_, h4⟩ | ⟨k, h3, _⟩
          · rw [h4 i (by omega)] at hocc
            cases hocc
          · omega
  cases h : pOf cut r with
  | true => exact (key.1 h).symm
  | false =>
    cases h2 : hasR cut r with
    | false => rfl
    | true => rw [key.2 h2] at h; cases h
/-! ### the reference's places -/
theorem first_left (s cut : ByteArray) : ∀ (f pos : Nat), s.data.toList.length ≤ pos + f →
    firstW s (fun r => hasR cut r == false) (tailStarts s pos) = if leftP (pOf cut) s.data.toList f pos < s.size then ((leftP (pOf cut) s.data.toList f pos : Nat) : Int) else -1
  | 0, pos, hf => by
    rw [← Lib.size_eq] at hf
    rw [tailStarts_end s pos (by omega), leftP, if_neg (by omega), firstW]
  | f + 1, pos, hf => by
    have hz : s.data.toList.length = s.size := (Lib.size_eq s).symm
    by_cases hp : pos < s.size
    · have h1 := wd_le s.data.toList pos (by omega)
      have hd := dec_list s pos
      have hph := pOf_has cut (rn s.data.toList pos) (rn_scal _ _)
      have hd1 : (Utf8.decode s pos).1 = rn s.data.toList pos := by unfold rn; rw [hd]
      rw [tailStarts_step s pos hp, firstW, hd1]
      cases hq : pOf cut (rn s.data.toList pos) with
      | true =>
        have e : leftP (pOf cut) s.data.toList (f + 1) pos = leftP (pOf cut) s.data.toList f (pos + (Utf8.decode s pos).2) := by
          rw [leftP, if_pos ⟨by omega, hq⟩, hd]
        rw [if_neg (by rw [← hph, hq]; decide), e]
        exact first_left s cut f (pos + (Utf8.decode s pos).2) (by rw [hd]; unfold wd at h1; omega)
      | false =>
        have e : leftP (pOf cut) s.data.toList (f + 1) pos = pos := by
          rw [leftP, if_neg (fun h => by have h2 := h.2; unfold rn at hq; rw [hq] at h2; cases h2)]
        rw [if_pos (by rw [← hph, hq]; rfl), e, if_pos hp]
    · have e : leftP (pOf cut) s.data.toList (f + 1) pos = pos := by rw [leftP, if_neg (fun h => hp (by have := h.1; omega))]
      rw [tailStarts_end s pos hp, firstW, e, if_neg hp]
theorem first_Left (s cut : ByteArray) : firstW s (fun r => hasR cut r == false) (starts s) = if Left (pOf cut) s.data.toList < s.size then ((Left (pOf cut) s.data.toList : Nat) : Int) else -1 := by
  rw [← tailStarts_zero]
  exact first_left s cut s.data.toList.length 0 (by omega)
theorem lastW_spec (s : ByteArray) (q : Nat → Bool) : ∀ (l : List Nat) (acc : Int), (lastW s q l acc = acc ∧ ∀ i ∈ l, q (Utf8.decode s i).1 = false) ∨
    ∃ l1 j l2, l = l1 ++ j :: l2 ∧ q (Utf8.decode s j).1 = true ∧ (∀ i ∈ l2, q (Utf8.decode s i).1 = false) ∧ lastW s q l acc = (j : Int)
  | [], acc => .inl ⟨rfl, fun i hi => by cases hi⟩
  | x :: l, acc => by
    rw [lastW]
    rcases lastW_spec s q l (if q (Utf8.decode s x).1 = true then (x : Int) else acc) with ⟨h1, h2⟩ | ⟨l1, j, l2, h1, h2, h3, h4⟩
    · cases hq : q (Utf8.decode s x).1 with
      | true =>
        rw [hq, if_pos rfl] at h1
        exact .inr ⟨[], x, l, rfl, hq, h2, by rw [if_pos rfl]; exact h1⟩
      | false =>
        rw [hq] at h1
        refine .inl ⟨h1, fun i hi => ?_⟩
        rcases List.mem_cons.1 hi with rfl | hi
        · exact hq
        · exact h2 i hi
    · exact .inr ⟨x :: l1, j, l2, by rw [h1]; rfl, h2, h3, h4⟩
theorem last_Right (s cut : ByteArray) : (lastW s (fun r => hasR cut r == false) (starts s) (-1) = -1 ∧ Right (pOf cut) s.data.toList = 0) ∨
    ∃ j : Nat, lastW s (fun r => hasR cut r == false) (starts s) (-1) = (j : Int) ∧ j < s.size ∧ Right (pOf cut) s.data.toList = j + (Utf8.decode s j).2 := by
  have hz : s.data.toList.length = s.size := (Lib.size_eq s).symm
  have hq : ∀ i, (hasR cut (Utf8.decode s i).1 == false) = !(pOf cut (rn s.data.toList i)) := fun i => by
    have hph := pOf_has cut (rn s.data.toList i) (rn_scal _ _)
    have hd1 : (Utf8.decode s i).1 = rn s.data.toList i := by unfold rn; rw [dec_list]
    rw [hd1, ← hph]
    cases pOf cut (rn s.data.toList i) <;> rfl
  rcases lastW_spec s (fun r => hasR cut r == false) (starts s) (-1) with ⟨h1, h2⟩ | ⟨l1, j, l2, h1, h2, h3, h4⟩
  · refine .inl ⟨h1, Right_eq (St.zero _) (fun k hk _ hkl => ?_) (fun h => absurd h (Nat.lt_irrefl _))⟩
    have := h2 k ((mem_starts s k).2 ⟨hk, by omega⟩)
    rw [hq] at this
    simpa using this
  · have hj : j ∈ starts s := by rw [h1]; simp
    obtain ⟨hjs, hjl⟩ := (mem_starts s j).1 hj
    have hw : (Utf8.decode s j).2 = wd s.data.toList j := by unfold wd; rw [dec_list]
    have hsorted : (starts s).Pairwise (· < ·) := by rw [← tailStarts_zero]; exact tail_sorted s s.size 0 (by omega)
    refine .inr ⟨j, h4, hjl, ?_⟩
    rw [hw]
    refine Right_eq (hjs.next (by omega)) (fun k hk hkj hkl => ?_) (fun _ => ⟨j, hjs, by omega, rfl, ?_⟩)
    · have hkm := (mem_starts s k).2 ⟨hk, by omega⟩
      have h1w := (wd_le s.data.toList j (by omega)).1
      rw [h1] at hkm hsorted
      have hp2 := List.pairwise_append.1 hsorted
      rcases List.mem_append.1 hkm with hm | hm
      · have := hp2.2.2 k hm j List.mem_cons_self
        omega
      · rcases List.mem_cons.1 hm with rfl | hm
        · omega
        · have := h3 k hm
          rw [hq] at this
          simpa using this
    · rw [hq] at h2
      simpa using h2
set_option maxHeartbeats 1600000 in
theorem specTrimLeft (s cut : ByteArray) (w : World) (hz : s.size ≤ 4294967296) (hz2 : cut.size ≤ 4294967296) :
    Calls Tryd.prog 15 #[.string s, .string cut] w fun e w' => e = .returned (.string ⟨(trimL (pOf cut) s.data.toList).toArray⟩) ∧ Below w.heap.size w w' := by
  have H := Lib.hid (specFirstOf s cut false w hz hz2)
  rw [first_Left s cut] at H
  have hle := (Left_spec (pOf cut) s.data.toList).1.le
  have hzl : s.data.toList.length = s.size := (Lib.size_eq s).symm
  have HE : Hid (s.extract (Left (pOf cut) s.data.toList) s.size = ⟨(trimL (pOf cut) s.data.toList).toArray⟩) := Lib.hid (by
    rw [Lib.extract_from]; rfl)
  have HZ : Hid (Left (pOf cut) s.data.toList = s.data.toList.length → (⟨(trimL (pOf cut) s.data.toList).toArray⟩ : ByteArray) = ⟨#[]⟩) := Lib.hid (fun h => by unfold trimL; rw [h, List.drop_length])
  generalize hL : Left (pOf cut) s.data.toList = L at *
  clear hL
  by_cases hlt : L < s.size
  · rw [if_pos hlt] at H
    have e1 : (0 : Int) ≤ (L : Int) := by omega
    have e2 : (L : Int) ≤ (s.size : Int) := by omega
    clear hlt
    go_enter Tryd.func15, Tryd.ntmps15
    go_wp2_with (go_at_call 39; refine H.out.mono ?_; rintro e w2 ⟨rfl, hB2⟩)
    go_ret
    exact ⟨by rw [← HE.out]; rfl, hB2⟩
  · rw [if_neg hlt] at H
    have HZ2 := Lib.hid (HZ.out (by omega))
    clear hlt
    go_enter Tryd.func15, Tryd.ntmps15
    go_wp2_with (go_at_call 39; refine H.out.mono ?_; rintro e w2 ⟨rfl, hB2⟩)
    go_ret
    exact ⟨by rw [HZ2.out]; rfl, hB2⟩
set_option maxHeartbeats 1600000 in
theorem specTrimRight (s cut : ByteArray) (w : World) (hz : s.size ≤ 4294967296) (hz2 : cut.size ≤ 4294967296) :
    Calls Tryd.prog 16 #[.string s, .string cut] w fun e w' => e = .returned (.string ⟨(trimR (pOf cut) s.data.toList).toArray⟩) ∧ Below w.heap.size w w' := by
  have H := Lib.hid (specLastOf s cut false w hz hz2)
  have hle := (Right_spec (pOf cut) s.data.toList).1.le
  have hzl : s.data.toList.length = s.size := (Lib.size_eq s).symm
  have HE : Hid (s.extract 0 (Right (pOf cut) s.data.toList) = ⟨(trimR (pOf cut) s.data.toList).toArray⟩) := Lib.hid (by
    rw [Lib.extract_upto]; rfl)
  rcases last_Right s cut with ⟨h1, h2⟩ | ⟨j, h1, h2, h3⟩
  · rw [h1] at H
    have HZ : Hid ((⟨(trimR (pOf cut) s.data.toList).toArray⟩ : ByteArray) = ⟨#[]⟩) := Lib.hid (by unfold trimR; rw [h2, List.take_zero])
    clear h1 h2 hle
    go_enter Tryd.func16, Tryd.ntmps16
    go_wp2_with (go_at_call 21; refine H.out.mono ?_; rintro e w2 ⟨rfl, hB2⟩)
    go_ret
    exact ⟨by rw [HZ.out]; rfl, hB2⟩
  · rw [h1] at H
    rw [h3] at HE hle
    have hsr := Lib.hid (fun (W : World) => seRune s j h2 (by omega) W)
    generalize hW : (Utf8.decode s j).2 = W0 at *
    generalize hR : (Utf8.decode s j).1 = R0 at *
    have e0 : ¬ ((j : Int) < 0) := by omega
    obtain ⟨R1, hR1⟩ : ∃ R1, j + W0 = R1 := ⟨_, rfl⟩
    rw [hR1] at HE hle
    have e1 : (j : Int) + (W0 : Int) = (R1 : Int) := by omega
    have e2 : (R1 : Int) ≤ (s.size : Int) := by omega
    have e3 : (0 : Int) ≤ (R1 : Int) := by omega
    clear h1 h2 h3 hle hW hR hR1
    go_enter Tryd.func16, Tryd.ntmps16
    go_wp2_with (first
      | (go_at_call 43; refine (hsr.out _).mono ?_; rintro e w3 ⟨rfl, rfl⟩)
      | (go_at_call 21; refine H.out.mono ?_; rintro e w2 ⟨rfl, hB2⟩))
    go_ret
    exact ⟨by rw [← HE.out]; rfl, hB2⟩
set_option maxHeartbeats 3200000 in
set_option maxRecDepth 100000 in
theorem walk_FnStrTrim (a0 a1 : ByteArray) (w : World) (w0 : a0.size ≤ maxLen) (w1 : a1.size ≤ maxLen) (htab : Lib.Utf8Tabs 2 3 w) :
    Calls Tryd.prog 9 #[.string a0, .string a1] w fun e w' => e = .returned (.bool true) ∧ Below w.heap.size w w' := by
  have hnot : ∀ (x : Bool) (w : World), (Op.unary .not (.bool x)).run Tryd.prog w = .ok (.bool (!x)) w := fun _ _ => rfl
  have hm : maxLen = 9223372036854775807 := rfl
  rw [hm] at w0 w1
  clear hm
  by_cases h0 : 2147483647 < a0.size
  · go_enter Tryd.func9, Tryd.ntmps9
    go_wp2
    go_ret
    exact ⟨rfl, Below.refl _ _⟩
  by_cases h1 : 2147483647 < a1.size
  · go_enter Tryd.func9, Tryd.ntmps9
    go_wp2
    go_ret
    exact ⟨rfl, Below.refl _ _⟩
  have HV0 := Lib.hid (fun (W : World) => specSeValid a0 W (by omega))
  have HV1 := Lib.hid (fun (W : World) => specSeValid a1 W (by omega))
  cases hv0 : validR a0 with
  | false =>
    rw [hv0] at HV0
    go_enter Tryd.func9, Tryd.ntmps9
    go_wp2_with (go_at_call 14; refine (HV0.out _).mono ?_; rintro e w2 ⟨rfl, hB2⟩)
    go_ret
    exact ⟨rfl, hB2⟩
  | true =>
  rw [hv0] at HV0
  cases hv1 : validR a1 with
  | false =>
    rw [hv1] at HV1
    go_enter Tryd.func9, Tryd.ntmps9
    go_wp2_with (first
      | (go_at_call 14; have B1' := B1; refine (HV1.out _).mono ?_; rintro e w2 ⟨rfl, hB2⟩)
      | (go_at_call 14; refine (HV0.out _).mono ?_; rintro e w2 ⟨rfl, B1⟩))
    go_ret
    exact ⟨rfl, B1.trans (hB2.mono B1.size)⟩
  | true =>
  rw [hv1] at HV1
  obtain ⟨hl1, hl2, hl3⟩ := trim_le (pOf a1) a0.data.toList
  rw [← Lib.size_eq] at hl1 hl2 hl3
  obtain ⟨L, hL⟩ : ∃ L : ByteArray, L = ⟨(trimL (pOf a1) a0.data.toList).toArray⟩ := ⟨_, rfl⟩
  obtain ⟨R, hR⟩ : ∃ R : ByteArray, R = ⟨(trimR (pOf a1) a0.data.toList).toArray⟩ := ⟨_, rfl⟩
  obtain ⟨T, hT⟩ : ∃ T : ByteArray, T = ⟨(trimB (pOf a1) a0.data.toList).toArray⟩ := ⟨_, rfl⟩
  have hLd : L.data.toList = trimL (pOf a1) a0.data.toList := by rw [hL]
  have hLs : L.size ≤ a0.size := by rw [hL, Lib.size_mk]; exact hl2
  have hTT := (trim_twice (pOf a1) a0.data.toList).2
  have HT := Lib.hid htab
  have S1 : Hid (∀ W, Calls Tryd.prog 15 #[.string a0, .string a1] W fun e w' => e = .returned (.string L) ∧ Below W.heap.size W w') := Lib.hid (fun W => by rw [hL]; exact specTrimLeft a0 a1 W (by omega) (by omega))
  have S2 : Hid (∀ W, Calls Tryd.prog 16 #[.string a0, .string a1] W fun e w' => e = .returned (.string R) ∧ Below W.heap.size W w') := Lib.hid (fun W => by rw [hR]; exact specTrimRight a0 a1 W (by omega) (by omega))
  have S3 : Hid (∀ W, Calls Tryd.prog 16 #[.string L, .string a1] W fun e w' => e = .returned (.string T) ∧ Below W.heap.size W w') := Lib.hid (fun W => by
    have h := specTrimRight L a1 W (by omega) (by omega)
    rw [hLd, hTT, ← hT] at h
    exact h)
  have I1 : Hid (∀ W, Below w.heap.size w W → Calls Tryd.prog 30 #[.string a0, .string a1] W fun e w' => e = .returned (.string L) ∧ Below W.heap.size W w') := Lib.hid (fun W hB => by rw [hL]; exact implTrimLeft a0 a1 W (by omega) (by omega) (Utf8Tabs_below HT.out hB))
  have I2 : Hid (∀ W, Below w.heap.size w W → Calls Tryd.prog 31 #[.string a0, .string a1] W fun e w' => e = .returned (.string R) ∧ Below W.heap.size W w') := Lib.hid (fun W hB => by rw [hR]; exact implTrimRight a0 a1 W (by omega) (by omega) (Utf8Tabs_below HT.out hB))
  have I3 : Hid (∀ W, Below w.heap.size w W → Calls Tryd.prog 32 #[.string a0, .string a1] W fun e w' => e = .returned (.string T) ∧ Below W.heap.size W w') := Lib.hid (fun W hB => by rw [hT]; exact implTrim a0 a1 W (by omega) (by omega) (Utf8Tabs_below HT.out hB))
  have I4 : Hid (∀ W, Below w.heap.size w W → Calls Tryd.prog 32 #[.string ⟨#[97, 98]⟩, .string ⟨#[98]⟩] W fun e w' => e = .returned (.string ⟨#[97]⟩) ∧ Below W.heap.size W w') := Lib.hid (fun W hB => by
    have h := implTrim ⟨#[97, 98]⟩ ⟨#[98]⟩ W (by decide) (by decide) (Utf8Tabs_below HT.out hB)
    rw [show (⟨#[97, 98]⟩ : ByteArray).data.toList = [97, 98] from rfl, trim_ab] at h
    exact h)
  clear hl1 hl2 hl3 hL hR hT hLd hLs hTT htab hv0 hv1
  go_enter Tryd.func9, Tryd.ntmps9
  go_wp2_with (first
    | (go_at_call 16; have B7' := B7; refine (S3.out _).mono ?_; rintro e w8 ⟨rfl, hB8⟩; have B8 := B7.trans (hB8.mono B7.size))
    | (go_at_call 16; have B3' := B3; refine (S2.out _).mono ?_; rintro e w4 ⟨rfl, hB4⟩; have B4 := B3.trans (hB4.mono B3.size))
    | (go_at_call 15; have B2' := B2; refine (S1.out _).mono ?_; rintro e w3 ⟨rfl, hB3⟩; have B3 := B2.trans (hB3.mono B2.size))
    | (go_at_call 32; have B8' := B8; refine (I4.out _ B8).mono ?_; rintro e w9 ⟨rfl, hB9⟩; have B9 := B8.trans (hB9.mono B8.size))
    | (go_at_call 32; have B6' := B6; refine (I3.out _ B6).mono ?_; rintro e w7 ⟨rfl, hB7⟩; have B7 := B6.trans (hB7.mono B6.size))
    | (go_at_call 31; have B5' := B5; refine (I2.out _ B5).mono ?_; rintro e w6 ⟨rfl, hB6⟩; have B6 := B5.trans (hB6.mono B5.size))
    | (go_at_call 30; have B4' := B4; refine (I1.out _ B4).mono ?_; rintro e w5 ⟨rfl, hB5⟩; have B5 := B4.trans (hB5.mono B4.size))
    | (go_at_call 14; have B1' := B1; refine (HV1.out _).mono ?_; rintro e w2 ⟨rfl, hB2⟩; have B2 := B1.trans (hB2.mono B1.size))
    | (go_at_call 14; refine (HV0.out _).mono ?_; rintro e w1' ⟨rfl, B1⟩))
  all_goals (go_ret; exact ⟨rfl, B9⟩)
end Go.Proofs.YthnbifkcbeldmaaDoor
