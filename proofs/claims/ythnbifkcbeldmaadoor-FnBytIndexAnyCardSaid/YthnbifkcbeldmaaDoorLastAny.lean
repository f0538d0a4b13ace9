/- gostrings.LastIndexAny; the law FnStrLastIndexAny. -/
import Derived.Test.YthnbifkcbeldmaaDoorLwTrim
namespace Go.Proofs.YthnbifkcbeldmaaDoor
open Go.Shelf Go.RowKit Go.Lib
set_option linter.unusedVariables false

/-- the last place of a code point that is such -/
def LastIs (p : Nat → Bool) (l : List UInt8) (v : Int) : Prop :=
  (v = -1 ∧ ∀ j, St l j → j < l.length → p (rn l j) = false) ∨ ∃ j : Nat, v = (j : Int) ∧ St l j ∧ j < l.length ∧ p (rn l j) = true ∧ ∀ k, St l k → j < k → k < l.length → p (rn l k) = false
theorem LastIs.one {p : Nat → Bool} {l : List UInt8} {v v' : Int} (h : LastIs p l v) (h' : LastIs p l v') : v = v' := by
  rcases h with ⟨rfl, h1⟩ | ⟨j, rfl, h1, h2, h3, h4⟩ <;> rcases h' with ⟨rfl, g1⟩ | ⟨k, rfl, g1, g2, g3, g4⟩
  · rfl
  · rw [h1 k g1 g2] at g3; cases g3
  · rw [g1 j h1 h2] at h3; cases h3
  · rcases Nat.lt_trichotomy j k with h | h | h
    · rw [h4 k g1 h g2] at g3; cases g3
    · rw [h]
    · rw [g4 j h1 h h2] at h3; cases h3
theorem last_is (s cut : ByteArray) : LastIs (pOf cut) s.data.toList (lastW s (fun r => hasR cut r == true) (starts s) (-1)) := by
  have hz : s.data.toList.length = s.size := (Lib.size_eq s).symm
  have hq : ∀ i, (hasR cut (Utf8.decode s i).1 == true) = pOf cut (rn s.data.toList i) := fun i => by
    have hph := pOf_has cut (rn s.data.toList i) (rn_scal _ _)
    have hd1 : (Utf8.decode s i).1 = rn s.data.toList i := by unfold rn; rw [dec_list]
    rw [hd1, ← hph]
    cases pOf cut (rn s.data.toList i) <;> rfl
  rcases lastW_spec s (fun r => hasR cut r == true) (starts s) (-1) with ⟨h1, h2⟩ | ⟨l1, j, l2, h1, h2, h3, h4⟩
  · refine .inl ⟨h1, fun k hk hkl => ?_⟩
    have := h2 k ((mem_starts s k).2 ⟨hk, by omega⟩)
    rw [hq] at this
    exact this
  · have hj : j ∈ starts s := by rw [h1]; simp
    obtain ⟨hjs, hjl⟩ := (mem_starts s j).1 hj
    have hsorted : (starts s).Pairwise (· < ·) := by rw [← tailStarts_zero]; exact tail_sorted s s.size 0 (by omega)
    rw [hq] at h2
    refine .inr ⟨j, h4, hjs, by omega, h2, fun k hk hkj hkl => ?_⟩
    have hkm := (mem_starts s k).2 ⟨hk, by omega⟩
    rw [h1] at hkm hsorted
    have hp2 := List.pairwise_append.1 hsorted
    rcases List.mem_append.1 hkm with hm | hm
    · have := hp2.2.2 k hm j List.mem_cons_self
      omega
    · rcases List.mem_cons.1 hm with rfl | hm
      · omega
      · have := h3 k hm
        rw [hq] at this
        exact this
/-- the code point of a text of one byte -/
def rcOf (c : UInt8) : Nat := if c.toNat < 128 then c.toNat else 65533
theorem rn_one (l : List UInt8) (c : UInt8) (h : l = [c]) : rn l 0 = rcOf c := by
  subst h
  unfold rn rcOf
  rw [decL_at]
  simp only [List.getD_cons_zero, List.length_cons, List.length_nil]
  by_cases hc : c.toNat < 128
  · rw [if_pos hc, decodeN_ascii _ _ _ _ _ hc]
  · rw [if_neg hc, decodeN_alone _ _ _ _ _ (by omega) (.inl (by omega))]
theorem list_one {cut : ByteArray} {c : UInt8} (h0 : 0 < cut.size) (h1 : cut.size = 1) (hc : cut[0]'h0 = c) : cut.data.toList = [c] := by
  obtain ⟨b, rfl⟩ := one_of h1
  have : b = c := hc
  rw [this]
theorem pOf_one (cut : ByteArray) (c : UInt8) (hl : cut.data.toList = [c]) (r : Nat) (hr : Scal r) : pOf cut r = true ↔ r = rcOf c := by
  rw [pOf_has _ _ hr, hasR_iff]
  have hsz : cut.size = 1 := by rw [Lib.size_eq, hl]; rfl
  constructor
  · rintro ⟨i, hi, hd⟩
    obtain ⟨_, hlt⟩ := (mem_starts _ i).1 hi
    obtain rfl : i = 0 := by omega
    rw [dec_list] at hd
    rw [← hd]
    exact rn_one _ c hl
  · rintro rfl
    refine ⟨0, (mem_starts _ 0).2 ⟨St.zero _, by omega⟩, ?_⟩
    rw [dec_list]
    exact rn_one _ c hl
set_option maxHeartbeats 800000 in
theorem shouldUse (n : Nat) (w : World) : Calls Tryd.prog 76 #[.int .i64 (n : Int)] w fun e w' => e = .returned (.bool (decide (8 < n))) ∧ w' = w := by
  have h : decide ((8 : Int) < (n : Int)) = decide (8 < n) := by rw [decide_eq_decide]; omega
  go_enter Tryd.func76, Tryd.ntmps76
  go_wp2_with fail
  go_ret
  exact ⟨by rw [← h]; rfl, rfl⟩
def LaRel (w : World) (cut s : ByteArray) (v : Value) (wr : World) : Prop := ∃ i : Nat, v = .int .i64 (i : Int) ∧ St s.data.toList i ∧ (∀ k, St s.data.toList k → i ≤ k → k < s.data.toList.length → pOf cut (rn s.data.toList k) = false) ∧ Below w.heap.size w wr
def LaPost (w : World) (s cut : ByteArray) (e : Ending) (w' : World) : Prop := ∃ v : Int, e = .returned (.int .i64 v) ∧ LastIs (pOf cut) s.data.toList v ∧ Below w.heap.size w w'
theorem LaPost.ret {w w' : World} {s cut : ByteArray} {v : Int} (h : LastIs (pOf cut) s.data.toList v) (hB : Below w.heap.size w w') : LaPost w s cut (.returned (.int .i64 v)) w' := ⟨v, rfl, h, hB⟩
def LbRel (w : World) (cut s : ByteArray) (v : Value) (wr : World) : Prop := ∃ i : Nat, v = .int .i64 ((i : Int) - 1) ∧ i ≤ s.data.toList.length ∧ (∀ k, i ≤ k → k < s.data.toList.length → cut.data.toList.contains (s.data.toList.getD k 0) = false) ∧ wr = w
theorem ascii_last {cut : ByteArray} {l : List UInt8} (ha : ∀ c ∈ cut.data.toList, c.toNat < 128) {i : Nat} (h : ∀ k, i ≤ k → k < l.length → cut.data.toList.contains (l.getD k 0) = false) : ∀ k, St l k → i ≤ k → k < l.length → pOf cut (rn l k) = false := fun k hk h1 h2 => by
  cases hp : pOf cut (rn l k) with
  | false => rfl
  | true =>
    obtain ⟨c, hc, hcr, hc1⟩ := (pOf_ascii ha _).1 hp
    have hb : (l.getD k 0).toNat < 128 := by
      apply Nat.lt_of_not_le
      intro hge
      have h2 : 128 ≤ (decodeN (l.length - k) (l.getD k 0).toNat (l.getD (k + 1) 0).toNat (l.getD (k + 2) 0).toNat (l.getD (k + 3) 0).toNat).1 := by
        unfold decodeN
        repeat' split
        all_goals (simp only; omega)
      rw [← decL_at] at h2
      unfold rn at hcr
      omega
    have hd := decL_at l k
    rw [decodeN_ascii _ _ _ _ _ hb] at hd
    have hcc : c = l.getD k 0 := UInt8.toNat_inj.1 (by rw [hcr]; unfold rn; rw [hd])
    have := h k h1 h2
    rw [← hcc] at this
    rw [show cut.data.toList.contains c = true by simpa using hc] at this
    cases this
theorem ascii_at {cut : ByteArray} {l : List UInt8} (ha : ∀ c ∈ cut.data.toList, c.toNat < 128) {i : Nat} (hi : i < l.length) (h : cut.data.toList.contains (l.getD i 0) = true) : St l i ∧ pOf cut (rn l i) = true := by
  have hc : l.getD i 0 ∈ cut.data.toList := by simpa using h
  have hb := ha _ hc
  have hd := decL_at l i
  rw [decodeN_ascii _ _ _ _ _ hb] at hd
  exact ⟨lead hi (by omega), (pOf_ascii ha _).2 ⟨_, hc, by unfold rn; rw [hd], hb⟩⟩
set_option maxHeartbeats 2000000 in
set_option maxRecDepth 1000000 in
theorem gLa_nil (s cut : ByteArray) (w : World) (hs : s.size ≤ 4294967296) (hc : cut.size < 4294967281) (hT : Utf8Tabs 2 3 w) (h3 : cut.size = 0) :
    Calls Tryd.prog 48 #[.string s, .string cut] w (LaPost w s cut) := by
  have HT := Lib.hid hT
  have hv116 := zeroSet
  have hi116 := infoSet
  have hsl : s.data.toList.length = s.size := (Lib.size_eq s).symm
  have mixed : Tryd.prog.follows Departure.mixedOrders = true := by kernel_rfl
  have HI : Hid (∀ (r : Nat) W, Calls Tryd.prog 75 #[.string cut, .int .i32 (r : Int)] W fun e w' => e = .returned (.int .i64 (irOf cut (r : Int))) ∧ Below W.heap.size W w') := Lib.hid (fun r W => gIndexRune cut (r : Int) W hc)
  clear hT
  obtain rfl := nil_of h3
  have HP : Hid (LastIs (pOf ⟨#[]⟩) s.data.toList (-1)) := Lib.hid (.inl ⟨rfl, fun j _ _ => pOf_nil _⟩)
  clear h3
  go_enter Tryd.func48, Tryd.ntmps48
  go_wp2_with fail
  go_ret
  exact LaPost.ret HP.out (Below.refl _ _)
set_option maxHeartbeats 2000000 in
set_option maxRecDepth 1000000 in
theorem gLa_one (s cut : ByteArray) (w : World) (hs : s.size ≤ 4294967296) (hc : cut.size < 4294967281) (hT : Utf8Tabs 2 3 w) (h3 : 0 < cut.size) (hs1 : s.size = 1) :
    Calls Tryd.prog 48 #[.string s, .string cut] w (LaPost w s cut) := by
  have HT := Lib.hid hT
  have hv116 := zeroSet
  have hi116 := infoSet
  have hsl : s.data.toList.length = s.size := (Lib.size_eq s).symm
  have mixed : Tryd.prog.follows Departure.mixedOrders = true := by kernel_rfl
  have HI : Hid (∀ (r : Nat) W, Calls Tryd.prog 75 #[.string cut, .int .i32 (r : Int)] W fun e w' => e = .returned (.int .i64 (irOf cut (r : Int))) ∧ Below W.heap.size W w') := Lib.hid (fun r W => gIndexRune cut (r : Int) W hc)
  clear hT
  have hemp : cut.toList.isEmpty = false := by
    rw [Lib.toList_data]
    cases h : cut.data.toList with
    | nil => have := Lib.size_eq cut; rw [h, List.length_nil] at this; omega
    | cons _ _ => rfl
  have hs0 : 0 < s.size := by omega
  obtain ⟨b, hx⟩ : ∃ b, s[0]'hs0 = b := ⟨_, rfl⟩
  have hl1 := list_one hs0 hs1 hx
  have hrn : rn s.data.toList 0 = rcOf b := rn_one _ b hl1
  have hw32 : wrap32 (b.toNat : Int) = (b.toNat : Int) := by have := b.toNat_lt; unfold wrap32; omega
  have HY : Hid (pOf cut (rcOf b) = true → LastIs (pOf cut) s.data.toList 0) := Lib.hid (fun h => .inr ⟨0, rfl, St.zero _, by omega, by rw [hrn]; exact h, fun k _ h1 h2 => by omega⟩)
  have HN : Hid (pOf cut (rcOf b) = false → LastIs (pOf cut) s.data.toList (-1)) := Lib.hid (fun h => .inl ⟨rfl, fun k _ h2 => by
    obtain rfl : k = 0 := by omega
    rw [hrn]
    exact h⟩)
  have HIR := Lib.hid (HI.out (rcOf b))
  have g0 : ((s.size : Int) == 1) = true := beq_iff_eq.2 (by omega)
  have g00 : (0 : Int) < (s.size : Int) := by omega
  clear hrn hs1 hsl hl1
  by_cases hb : b.toNat < 128
  · have hrc : rcOf b = b.toNat := if_pos hb
    rw [hrc] at HY HN HIR
    have g1 : ¬ ((128 : Int) ≤ (b.toNat : Int)) := by omega
    clear hrc
    by_cases hp : pOf cut b.toNat = true
    · have g2 : (0 : Int) ≤ irOf cut (b.toNat : Int) := of_decide_eq_true hp
      have HP := Lib.hid (HY.out hp)
      clear hp hb HY HN
      generalize irOf cut (b.toNat : Int) = V at g2 HIR
      go_enter Tryd.func48, Tryd.ntmps48
      go_wp2_with (go_at_call 75; refine (HIR.out _).mono ?_; rintro e w2 ⟨rfl, hB2⟩)
      go_ret
      exact LaPost.ret HP.out hB2
    · have hp := eq_false_of_ne_true hp
      have g2 : irOf cut (b.toNat : Int) < 0 := by have h : ¬ (0 ≤ irOf cut (b.toNat : Int)) := of_decide_eq_false hp; omega
      have HP := Lib.hid (HN.out hp)
      clear hp hb HY HN
      generalize irOf cut (b.toNat : Int) = V at g2 HIR
      go_enter Tryd.func48, Tryd.ntmps48
      go_wp2_with (go_at_call 75; refine (HIR.out _).mono ?_; rintro e w2 ⟨rfl, hB2⟩)
      go_ret
      exact LaPost.ret HP.out hB2
  · have hrc : rcOf b = 65533 := if_neg hb
    rw [hrc] at HY HN HIR
    have HIR : Hid (∀ W, Calls Tryd.prog 75 #[.string cut, .int .i32 65533] W fun e w' => e = .returned (.int .i64 (irOf cut 65533)) ∧ Below W.heap.size W w') := HIR
    have g1 : (128 : Int) ≤ (b.toNat : Int) := by omega
    clear hrc
    by_cases hp : pOf cut 65533 = true
    · have g2 : (0 : Int) ≤ irOf cut 65533 := of_decide_eq_true hp
      have HP := Lib.hid (HY.out hp)
      clear hp hb HY HN
      generalize irOf cut 65533 = V at g2 HIR
      go_enter Tryd.func48, Tryd.ntmps48
      go_wp2_with (go_at_call 75; refine (HIR.out _).mono ?_; rintro e w2 ⟨rfl, hB2⟩)
      go_ret
      exact LaPost.ret HP.out hB2
    · have hp := eq_false_of_ne_true hp
      have g2 : irOf cut 65533 < 0 := by have h : ¬ (0 ≤ irOf cut 65533) := of_decide_eq_false hp; omega
      have HP := Lib.hid (HN.out hp)
      clear hp hb HY HN
      generalize irOf cut 65533 = V at g2 HIR
      go_enter Tryd.func48, Tryd.ntmps48
      go_wp2_with (go_at_call 75; refine (HIR.out _).mono ?_; rintro e w2 ⟨rfl, hB2⟩)
      go_ret
      exact LaPost.ret HP.out hB2
set_option maxHeartbeats 2000000 in
set_option maxRecDepth 1000000 in
theorem gLa_set (s cut : ByteArray) (w : World) (hs : s.size ≤ 4294967296) (hc : cut.size < 4294967281) (hT : Utf8Tabs 2 3 w) (h3 : 0 < cut.size) (hs1 : s.size ≠ 1) (h8 : 8 < s.size) (ha : ∀ (j : Nat) b, cut.data.toList[j]? = some b → b.toNat < 128) :
    Calls Tryd.prog 48 #[.string s, .string cut] w (LaPost w s cut) := by
  have HT := Lib.hid hT
  have hv116 := zeroSet
  have hi116 := infoSet
  have hsl : s.data.toList.length = s.size := (Lib.size_eq s).symm
  have mixed : Tryd.prog.follows Departure.mixedOrders = true := by kernel_rfl
  have HI : Hid (∀ (r : Nat) W, Calls Tryd.prog 75 #[.string cut, .int .i32 (r : Int)] W fun e w' => e = .returned (.int .i64 (irOf cut (r : Int))) ∧ Below W.heap.size W w') := Lib.hid (fun r W => gIndexRune cut (r : Int) W hc)
  clear hT
  have hemp : cut.toList.isEmpty = false := by
    rw [Lib.toList_data]
    cases h : cut.data.toList with
    | nil => have := Lib.size_eq cut; rw [h, List.length_nil] at this; omega
    | cons _ _ => rfl
  have hne1 : ((s.size : Int) == 1) = false := beq_eq_false_iff_ne.2 (by omega)
  have HU := Lib.hid (fun (W : World) => shouldUse s.size W)
  rw [decide_eq_true h8] at HU
  have hm := ascii_mem ha
  have hM := Lib.hid (strings_makeASCIISet hv116 hi116 cut w hc ha)
  have hsc : (storeCells ⟨w.heap.size + 1, 0, none⟩ (Lib.setCells cut.data.toList).toList 0).run Tryd.prog ((w.alloc (.cells (Lib.setCells cut.data.toList) 68)).alloc (.cells (Array.replicate 256 (.bool false)) 68)) = .ok () ((w.alloc (.cells (Lib.setCells cut.data.toList) 68)).alloc (.cells (Lib.setCells cut.data.toList) 68)) := by
    have := run_storeCells_new (P := Tryd.prog) (w.alloc (.cells (Lib.setCells cut.data.toList) 68)) 68 (Array.replicate 256 (.bool false)) (Lib.setCells cut.data.toList) (by rw [Lib.setCells_size]; exact hi116) (by rw [Lib.setCells_size, Array.size_replicate]) (Lib.setCells_one _)
    simpa using this
  have hsz := Lib.setCells_size cut.data.toList
  have BA : Below w.heap.size w ((w.alloc (.cells (Lib.setCells cut.data.toList) 68)).alloc (.cells (Lib.setCells cut.data.toList) 68)) := ((Below.refl _ w).alloc (Nat.le_refl _) _).alloc (by simp) _
  have HCA : Hid (∀ x : UInt8, ((w.alloc (.cells (Lib.setCells cut.data.toList) 68)).alloc (.cells (Lib.setCells cut.data.toList) 68)).cell? ⟨w.heap.size + 1, x.toNat, none⟩ = some (.bool (cut.data.toList.contains x))) := Lib.hid (fun x => by
    rw [World.cell?_alloc_at _ _ _ _ (by simp), Lib.setCells_at])
  have HA := Lib.hid hm
  clear ha hm
  go_enter Tryd.func48, Tryd.ntmps48
  go_wp2_with (first
    | (go_at_call 76; refine (HU.out _).mono ?_; rintro e w' ⟨rfl, hw⟩; rw [hw])
    | (go_at_call 77; refine hM.out.mono ?_; rintro e w' ⟨rfl, hw⟩; rw [hw]))
  clear hsc
  obtain ⟨W1, hW1⟩ : ∃ W1, ((w.alloc (.cells (Lib.setCells cut.data.toList) 68)).alloc (.cells (Lib.setCells cut.data.toList) 68)) = W1 := ⟨_, rfl⟩
  rw [hW1] at BA HCA ⊢
  clear hW1 hM
  go_loopw [8] (LbRel W1 cut s) (fun v _ => ((RowKit.intOf v) + 1).toNat)
  case atStart => exact ⟨s.data.toList.length, by rw [← Lib.size_eq], Nat.le_refl _, fun k h1 h2 => by omega, rfl⟩
  case round =>
    obtain ⟨i, rfl, hil, hall, rfl⟩ := hrel
    have HALL := Lib.hid hall
    clear hall
    by_cases h0 : 0 < i
    · obtain ⟨i', rfl⟩ : ∃ i', i = i' + 1 := ⟨i - 1, by omega⟩
      have hi' : i' < s.size := by omega
      have e0 : ((i' + 1 : Nat) : Int) - 1 = (i' : Int) := by omega
      have e1 : (0 : Int) ≤ (i' : Int) := by omega
      have e2 : (i' : Int) < (s.size : Int) := by omega
      obtain ⟨x, hx⟩ : ∃ x, getElem s i' hi' = x := ⟨_, rfl⟩
      have hgd : s.data.toList.getD i' 0 = x := by rw [List.getD_eq_getElem?_getD, getAt s i' hi', hx]; rfl
      have hcx := HCA.out x
      rw [e0]
      clear e0
      cases hin : cut.data.toList.contains x with
      | true =>
        rw [hin] at hcx
        have hat := ascii_at (l := s.data.toList) (i := i') HA.out (by omega) (by rw [hgd]; exact hin)
        have HP : Hid (LastIs (pOf cut) s.data.toList (i' : Int)) := Lib.hid (.inr ⟨i', rfl, hat.1, by omega, hat.2, fun k hk h1 h2 => ascii_last HA.out HALL.out k hk (by omega) h2⟩)
        clear hat hgd hin
        go_wp2_with (go_at_call 78; refine (asciiSet_contains _ x _ _ hcx).mono ?_; rintro e w' ⟨rfl, hw⟩; rw [hw])
        go_ret
        exact LaPost.ret HP.out BA
      | false =>
        rw [hin] at hcx
        have HN := Lib.hid hin
        have HG := Lib.hid hgd
        clear hin hgd
        go_wp2_with (go_at_call 78; refine (asciiSet_contains _ x _ _ hcx).mono ?_; rintro e w' ⟨rfl, hw⟩; rw [hw])
        go_roundw
        case rel => exact ⟨i', by go_num, by omega, fun k h1 h2 => by
          by_cases e : k = i'
          · subst e; rw [HG.out]; exact HN.out
          · exact HALL.out k (by omega) h2, rfl⟩
        case measure => simp [RowKit.intOf]
    · obtain rfl : i = 0 := by omega
      have HP : Hid (LastIs (pOf cut) s.data.toList (-1)) := Lib.hid (.inl ⟨rfl, fun k hk h => ascii_last HA.out HALL.out k hk (Nat.zero_le _) h⟩)
      clear h0
      go_wp2_with fail
      go_ret
      exact LaPost.ret HP.out BA
set_option maxHeartbeats 2000000 in
set_option maxRecDepth 1000000 in
theorem gLa_high1 (s cut : ByteArray) (w : World) (hs : s.size ≤ 4294967296) (hc : cut.size < 4294967281) (hT : Utf8Tabs 2 3 w) (h3 : 0 < cut.size) (hs1 : s.size ≠ 1) (h8 : 8 < s.size) (n0 : Nat) (hf : FirstHigh cut n0) (h1 : cut.size = 1) :
    Calls Tryd.prog 48 #[.string s, .string cut] w (LaPost w s cut) := by
  have HT := Lib.hid hT
  have hv116 := zeroSet
  have hi116 := infoSet
  have hsl : s.data.toList.length = s.size := (Lib.size_eq s).symm
  have mixed : Tryd.prog.follows Departure.mixedOrders = true := by kernel_rfl
  have HI : Hid (∀ (r : Nat) W, Calls Tryd.prog 75 #[.string cut, .int .i32 (r : Int)] W fun e w' => e = .returned (.int .i64 (irOf cut (r : Int))) ∧ Below W.heap.size W w') := Lib.hid (fun r W => gIndexRune cut (r : Int) W hc)
  clear hT
  have hemp : cut.toList.isEmpty = false := by
    rw [Lib.toList_data]
    cases h : cut.data.toList with
    | nil => have := Lib.size_eq cut; rw [h, List.length_nil] at this; omega
    | cons _ _ => rfl
  have hne1 : ((s.size : Int) == 1) = false := beq_eq_false_iff_ne.2 (by omega)
  have HU := Lib.hid (fun (W : World) => shouldUse s.size W)
  rw [decide_eq_true h8] at HU
  have hM := Lib.hid (makeSet_no cut n0 w hc hf)
  clear hf
  obtain ⟨C, hC⟩ : ∃ C, Lib.setCells (cut.data.toList.take n0) = C := ⟨_, rfl⟩
  have hsz := Lib.setCells_size (cut.data.toList.take n0)
  have hs1 := Lib.setCells_one (cut.data.toList.take n0)
  rw [hC] at hM hsz hs1
  clear hC
  have hsc : (storeCells ⟨w.heap.size + 1, 0, none⟩ C.toList 0).run Tryd.prog ((w.alloc (.cells C 68)).alloc (.cells (Array.replicate 256 (.bool false)) 68)) = .ok () ((w.alloc (.cells C 68)).alloc (.cells C 68)) := by
    have := run_storeCells_new (P := Tryd.prog) (w.alloc (.cells C 68)) 68 (Array.replicate 256 (.bool false)) C (by rw [hsz]; exact hi116) (by rw [hsz, Array.size_replicate]) hs1
    simpa using this
  have BA : Below w.heap.size w ((w.alloc (.cells C 68)).alloc (.cells C 68)) := ((Below.refl _ w).alloc (Nat.le_refl _) _).alloc (by simp) _
  have HS1 := Lib.hid hs1
  clear hs1
  obtain ⟨c, hx⟩ : ∃ c, cut[0]'h3 = c := ⟨_, rfl⟩
  have hl1 := list_one h3 h1 hx
  have hw32 : wrap32 (c.toNat : Int) = (c.toNat : Int) := by have := c.toNat_lt; unfold wrap32; omega
  have HPC : Hid (∀ R, Scal R → (pOf cut R = true ↔ R = rcOf c)) := Lib.hid (fun R hR => pOf_one cut c hl1 R hR)
  have hn1 : ((cut.size : Int) == 1) = true := beq_iff_eq.2 (by omega)
  have hcp2 : (0 : Int) < (cut.size : Int) := by omega
  clear hl1 h1
  by_cases hcb : c.toNat < 128
  · have hrc : rcOf c = c.toNat := if_pos hcb
    have g9 : ¬ ((128 : Int) ≤ (c.toNat : Int)) := by omega
    rw [hrc] at HPC
    clear hrc hcb
    go_enter Tryd.func48, Tryd.ntmps48
    go_wp2_with (first
      | (go_at_call 76; refine (HU.out _).mono ?_; rintro e w' ⟨rfl, hw⟩; rw [hw])
      | (go_at_call 77; refine hM.out.mono ?_; rintro e w' ⟨rfl, hw⟩; rw [hw]))
    (try simp only [hw32])
    go_loopw [10] (LaRel w cut s) (fun v _ => (RowKit.intOf v).toNat)
    case atStart => exact ⟨s.data.toList.length, by rw [← Lib.size_eq], St.len _, fun k hk h1 h2 => by omega, BA⟩
    case round =>
      obtain ⟨i, rfl, hst, hall, B⟩ := hrel
      have HALL := Lib.hid hall
      have hil := hst.le
      clear hall
      by_cases h0 : 0 < i
      · obtain ⟨j, hj, hjl, hji, hw⟩ := hst.pred h0
        have hlast := hj.last hjl
        rw [hw] at hlast
        have htd : (s.extract 0 i).data.toList = s.data.toList.take i := by rw [Lib.extract_upto]
        have hts : (s.extract 0 i).size = i := by rw [Lib.extract_upto, Lib.size_mk, List.length_take]; omega
        obtain ⟨R, hR⟩ : ∃ R, rn s.data.toList j = R := ⟨_, rfl⟩
        obtain ⟨W0, hW⟩ : ∃ W0, wd s.data.toList j = W0 := ⟨_, rfl⟩
        have HD : Hid (∀ W, Below w.heap.size w W → Calls Tryd.prog 79 #[.string (s.extract 0 i)] W fun e w' => e = .returned (.tuple #[.int .i32 (R : Int), .int .i64 (W0 : Int)]) ∧ Below W.heap.size W w') := Lib.hid (fun W hB => by
          have h := Tryd.utf8_DecodeLastRuneInString (s.extract 0 i) W (by omega) (Utf8Tabs_below HT.out hB)
          rw [htd, hlast] at h
          rw [← hR, ← hW]
          exact h)
        rw [hW] at hw
        have e1 : (i : Int) - (W0 : Int) = (j : Int) := by omega
        have e2 : (i : Int) ≤ (s.size : Int) := by omega
        have e3 : (0 : Int) ≤ (i : Int) := by omega
        have e4 : (0 : Int) < (i : Int) := by omega
        have HPQ : Hid (pOf cut R = true ↔ R = c.toNat) := Lib.hid (HPC.out R (hR ▸ rn_scal _ _))
        have HR := Lib.hid hR
        have HJ := Lib.hid hj
        have HST := Lib.hid hst
        have HW := Lib.hid hW
        clear hlast htd hts hj hst
        cases hp : pOf cut R with
        | true =>
          have g1 : ((c.toNat : Int) == (R : Int)) = true := by rw [HPQ.out.1 hp]; exact beq_self_eq_true _
          have HP : Hid (LastIs (pOf cut) s.data.toList (j : Int)) := Lib.hid (.inr ⟨j, rfl, HJ.out, hjl, by rw [HR.out]; exact hp, fun k hk h1 h2 => HALL.out k hk (by have := HJ.out.chain hk h1; rw [HW.out] at this; omega) h2⟩)
          clear hp hR hW
          go_wp2_with (go_at_call 79; refine (HD.out _ B).mono ?_; rintro e w2 ⟨rfl, hB2⟩; have B2 := B.trans (hB2.mono B.size))
          go_ret
          exact ⟨_, rfl, HP.out, B2⟩
        | false =>
          have g1 : ((c.toNat : Int) == (R : Int)) = false := beq_eq_false_iff_ne.2 (fun e => by have h := HPQ.out.2 (by omega); rw [hp] at h; cases h)
          have hne : ¬ (R = c.toNat) := fun e => by have h := HPQ.out.2 e; rw [hp] at h; cases h
          have g11 : ¬ ((c.toNat : Int) = (R : Int)) := by omega
          have g12 : ¬ ((R : Int) = (c.toNat : Int)) := by omega
          have g13 : ((R : Int) == (c.toNat : Int)) = false := beq_eq_false_iff_ne.2 g12
          have HP := Lib.hid hp
          clear hp hR hW
          go_wp2_with (go_at_call 79; refine (HD.out _ B).mono ?_; rintro e w2 ⟨rfl, hB2⟩; have B2 := B.trans (hB2.mono B.size))
          have HREL : LaRel w cut s (.int .i64 (j : Int)) _ := ⟨j, rfl, HJ.out, fun k hk h1 h2 => by
            by_cases e : k = j
            · subst e; rw [HR.out]; exact HP.out
            · have := HJ.out.chain hk (by omega)
              rw [HW.out] at this
              exact HALL.out k hk (by omega) h2, B2⟩
          go_roundw
          case rel => first | exact HREL | ((repeat apply Exists.intro); exact ⟨HREL, rfl⟩)
          case measure => simp [RowKit.intOf]; omega
      · obtain rfl : i = 0 := by omega
        have HP : Hid (LastIs (pOf cut) s.data.toList (-1)) := Lib.hid (.inl ⟨rfl, fun k hk h => HALL.out k hk (Nat.zero_le _) h⟩)
        clear h0
        go_wp2_with fail
        go_ret
        exact ⟨_, rfl, HP.out, B⟩
  · have hrc : rcOf c = 65533 := if_neg hcb
    have g9 : (128 : Int) ≤ (c.toNat : Int) := by omega
    rw [hrc] at HPC
    clear hrc hcb
    go_enter Tryd.func48, Tryd.ntmps48
    go_wp2_with (first
      | (go_at_call 76; refine (HU.out _).mono ?_; rintro e w' ⟨rfl, hw⟩; rw [hw])
      | (go_at_call 77; refine hM.out.mono ?_; rintro e w' ⟨rfl, hw⟩; rw [hw]))
    (try simp only [hw32])
    go_loopw [10] (LaRel w cut s) (fun v _ => (RowKit.intOf v).toNat)
    case atStart => exact ⟨s.data.toList.length, by rw [← Lib.size_eq], St.len _, fun k hk h1 h2 => by omega, BA⟩
    case round =>
      obtain ⟨i, rfl, hst, hall, B⟩ := hrel
      have HALL := Lib.hid hall
      have hil := hst.le
      clear hall
      by_cases h0 : 0 < i
      · obtain ⟨j, hj, hjl, hji, hw⟩ := hst.pred h0
        have hlast := hj.last hjl
        rw [hw] at hlast
        have htd : (s.extract 0 i).data.toList = s.data.toList.take i := by rw [Lib.extract_upto]
        have hts : (s.extract 0 i).size = i := by rw [Lib.extract_upto, Lib.size_mk, List.length_take]; omega
        obtain ⟨R, hR⟩ : ∃ R, rn s.data.toList j = R := ⟨_, rfl⟩
        obtain ⟨W0, hW⟩ : ∃ W0, wd s.data.toList j = W0 := ⟨_, rfl⟩
        have HD : Hid (∀ W, Below w.heap.size w W → Calls Tryd.prog 79 #[.string (s.extract 0 i)] W fun e w' => e = .returned (.tuple #[.int .i32 (R : Int), .int .i64 (W0 : Int)]) ∧ Below W.heap.size W w') := Lib.hid (fun W hB => by
          have h := Tryd.utf8_DecodeLastRuneInString (s.extract 0 i) W (by omega) (Utf8Tabs_below HT.out hB)
          rw [htd, hlast] at h
          rw [← hR, ← hW]
          exact h)
        rw [hW] at hw
        have e1 : (i : Int) - (W0 : Int) = (j : Int) := by omega
        have e2 : (i : Int) ≤ (s.size : Int) := by omega
        have e3 : (0 : Int) ≤ (i : Int) := by omega
        have e4 : (0 : Int) < (i : Int) := by omega
        have HPQ : Hid (pOf cut R = true ↔ R = 65533) := Lib.hid (HPC.out R (hR ▸ rn_scal _ _))
        have HR := Lib.hid hR
        have HJ := Lib.hid hj
        have HST := Lib.hid hst
        have HW := Lib.hid hW
        clear hlast htd hts hj hst
        cases hp : pOf cut R with
        | true =>
          have g1 : ((65533 : Int) == (R : Int)) = true := by rw [HPQ.out.1 hp]; rfl
          have HP : Hid (LastIs (pOf cut) s.data.toList (j : Int)) := Lib.hid (.inr ⟨j, rfl, HJ.out, hjl, by rw [HR.out]; exact hp, fun k hk h1 h2 => HALL.out k hk (by have := HJ.out.chain hk h1; rw [HW.out] at this; omega) h2⟩)
          clear hp hR hW
          go_wp2_with (go_at_call 79; refine (HD.out _ B).mono ?_; rintro e w2 ⟨rfl, hB2⟩; have B2 := B.trans (hB2.mono B.size))
          go_ret
          exact ⟨_, rfl, HP.out, B2⟩
        | false =>
          have g1 : ((65533 : Int) == (R : Int)) = false := beq_eq_false_iff_ne.2 (fun e => by have h := HPQ.out.2 (by omega); rw [hp] at h; cases h)
          have hne : ¬ (R = 65533) := fun e => by have h := HPQ.out.2 e; rw [hp] at h; cases h
          have g11 : ¬ ((65533 : Int) = (R : Int)) := by omega
          have g12 : ¬ ((R : Int) = (65533 : Int)) := by omega
          have g13 : ((R : Int) == (65533 : Int)) = false := beq_eq_false_iff_ne.2 g12
          have HP := Lib.hid hp
          clear hp hR hW
          go_wp2_with (go_at_call 79; refine (HD.out _ B).mono ?_; rintro e w2 ⟨rfl, hB2⟩; have B2 := B.trans (hB2.mono B.size))
          have HREL : LaRel w cut s (.int .i64 (j : Int)) _ := ⟨j, rfl, HJ.out, fun k hk h1 h2 => by
            by_cases e : k = j
            · subst e; rw [HR.out]; exact HP.out
            · have := HJ.out.chain hk (by omega)
              rw [HW.out] at this
              exact HALL.out k hk (by omega) h2, B2⟩
          go_roundw
          case rel => first | exact HREL | ((repeat apply Exists.intro); exact ⟨HREL, rfl⟩)
          case measure => simp [RowKit.intOf]; omega
      · obtain rfl : i = 0 := by omega
        have HP : Hid (LastIs (pOf cut) s.data.toList (-1)) := Lib.hid (.inl ⟨rfl, fun k hk h => HALL.out k hk (Nat.zero_le _) h⟩)
        clear h0
        go_wp2_with fail
        go_ret
        exact ⟨_, rfl, HP.out, B⟩
set_option maxHeartbeats 2000000 in
set_option maxRecDepth 1000000 in
theorem gLa_high2 (s cut : ByteArray) (w : World) (hs : s.size ≤ 4294967296) (hc : cut.size < 4294967281) (hT : Utf8Tabs 2 3 w) (h3 : 0 < cut.size) (hs1 : s.size ≠ 1) (h8 : 8 < s.size) (n0 : Nat) (hf : FirstHigh cut n0) (h1 : cut.size ≠ 1) :
    Calls Tryd.prog 48 #[.string s, .string cut] w (LaPost w s cut) := by
  have HT := Lib.hid hT
  have hv116 := zeroSet
  have hi116 := infoSet
  have hsl : s.data.toList.length = s.size := (Lib.size_eq s).symm
  have mixed : Tryd.prog.follows Departure.mixedOrders = true := by kernel_rfl
  have HI : Hid (∀ (r : Nat) W, Calls Tryd.prog 75 #[.string cut, .int .i32 (r : Int)] W fun e w' => e = .returned (.int .i64 (irOf cut (r : Int))) ∧ Below W.heap.size W w') := Lib.hid (fun r W => gIndexRune cut (r : Int) W hc)
  clear hT
  have hemp : cut.toList.isEmpty = false := by
    rw [Lib.toList_data]
    cases h : cut.data.toList with
    | nil => have := Lib.size_eq cut; rw [h, List.length_nil] at this; omega
    | cons _ _ => rfl
  have hne1 : ((s.size : Int) == 1) = false := beq_eq_false_iff_ne.2 (by omega)
  have HU := Lib.hid (fun (W : World) => shouldUse s.size W)
  rw [decide_eq_true h8] at HU
  have hM := Lib.hid (makeSet_no cut n0 w hc hf)
  clear hf
  obtain ⟨C, hC⟩ : ∃ C, Lib.setCells (cut.data.toList.take n0) = C := ⟨_, rfl⟩
  have hsz := Lib.setCells_size (cut.data.toList.take n0)
  have hs1 := Lib.setCells_one (cut.data.toList.take n0)
  rw [hC] at hM hsz hs1
  clear hC
  have hsc : (storeCells ⟨w.heap.size + 1, 0, none⟩ C.toList 0).run Tryd.prog ((w.alloc (.cells C 68)).alloc (.cells (Array.replicate 256 (.bool false)) 68)) = .ok () ((w.alloc (.cells C 68)).alloc (.cells C 68)) := by
    have := run_storeCells_new (P := Tryd.prog) (w.alloc (.cells C 68)) 68 (Array.replicate 256 (.bool false)) C (by rw [hsz]; exact hi116) (by rw [hsz, Array.size_replicate]) hs1
    simpa using this
  have BA : Below w.heap.size w ((w.alloc (.cells C 68)).alloc (.cells C 68)) := ((Below.refl _ w).alloc (Nat.le_refl _) _).alloc (by simp) _
  have HS1 := Lib.hid hs1
  clear hs1
  have hn1 : ((cut.size : Int) == 1) = false := beq_eq_false_iff_ne.2 (by omega)
  clear h1
  go_enter Tryd.func48, Tryd.ntmps48
  go_wp2_with (first
    | (go_at_call 76; refine (HU.out _).mono ?_; rintro e w' ⟨rfl, hw⟩; rw [hw])
    | (go_at_call 77; refine hM.out.mono ?_; rintro e w' ⟨rfl, hw⟩; rw [hw]))
  go_loopw [13] (LaRel w cut s) (fun v _ => (RowKit.intOf v).toNat)
  case atStart => exact ⟨s.data.toList.length, by rw [← Lib.size_eq], St.len _, fun k hk h1 h2 => by omega, BA⟩
  case round =>
    obtain ⟨i, rfl, hst, hall, B⟩ := hrel
    have HALL := Lib.hid hall
    have hil := hst.le
    clear hall
    by_cases h0 : 0 < i
    · obtain ⟨j, hj, hjl, hji, hw⟩ := hst.pred h0
      have hlast := hj.last hjl
      rw [hw] at hlast
      have htd : (s.extract 0 i).data.toList = s.data.toList.take i := by rw [Lib.extract_upto]
      have hts : (s.extract 0 i).size = i := by rw [Lib.extract_upto, Lib.size_mk, List.length_take]; omega
      obtain ⟨R, hR⟩ : ∃ R, rn s.data.toList j = R := ⟨_, rfl⟩
      obtain ⟨W0, hW⟩ : ∃ W0, wd s.data.toList j = W0 := ⟨_, rfl⟩
      have HD : Hid (∀ W, Below w.heap.size w W → Calls Tryd.prog 79 #[.string (s.extract 0 i)] W fun e w' => e = .returned (.tuple #[.int .i32 (R : Int), .int .i64 (W0 : Int)]) ∧ Below W.heap.size W w') := Lib.hid (fun W hB => by
        have h := Tryd.utf8_DecodeLastRuneInString (s.extract 0 i) W (by omega) (Utf8Tabs_below HT.out hB)
        rw [htd, hlast] at h
        rw [← hR, ← hW]
        exact h)
      rw [hW] at hw
      have e1 : (i : Int) - (W0 : Int) = (j : Int) := by omega
      have e2 : (i : Int) ≤ (s.size : Int) := by omega
      have e3 : (0 : Int) ≤ (i : Int) := by omega
      have e4 : (0 : Int) < (i : Int) := by omega
      have HR := Lib.hid hR
      have HJ := Lib.hid hj
      have HST := Lib.hid hst
      have HW := Lib.hid hW
      clear hlast htd hts hj hst
      cases hp : pOf cut R with
      | true =>
        have g1 : (0 : Int) ≤ irOf cut (R : Int) := of_decide_eq_true hp
        have HP : Hid (LastIs (pOf cut) s.data.toList (j : Int)) := Lib.hid (.inr ⟨j, rfl, HJ.out, hjl, by rw [HR.out]; exact hp, fun k hk h1 h2 => HALL.out k hk (by have := HJ.out.chain hk h1; rw [HW.out] at this; omega) h2⟩)
        clear hp hR hW
        go_wp2_with (first
          | (go_at_call 75; have B2' := B2; refine (HI.out R _).mono ?_; rintro e w3 ⟨rfl, hB3⟩; have B3 := B2.trans (hB3.mono B2.size))
          | (go_at_call 79; refine (HD.out _ B).mono ?_; rintro e w2 ⟨rfl, hB2⟩; have B2 := B.trans (hB2.mono B.size)))
        go_ret
        exact ⟨_, rfl, HP.out, B3⟩
      | false =>
        have g1 : irOf cut (R : Int) < 0 := by have := of_decide_eq_false hp; omega
        have HP := Lib.hid hp
        clear hp hR hW
        go_wp2_with (first
          | (go_at_call 75; have B2' := B2; refine (HI.out R _).mono ?_; rintro e w3 ⟨rfl, hB3⟩; have B3 := B2.trans (hB3.mono B2.size))
          | (go_at_call 79; refine (HD.out _ B).mono ?_; rintro e w2 ⟨rfl, hB2⟩; have B2 := B.trans (hB2.mono B.size)))
        have HREL : LaRel w cut s (.int .i64 (j : Int)) _ := ⟨j, rfl, HJ.out, fun k hk h1 h2 => by
          by_cases e : k = j
          · subst e; rw [HR.out]; exact HP.out
          · have := HJ.out.chain hk (by omega)
            rw [HW.out] at this
            exact HALL.out k hk (by omega) h2, B3⟩
        go_roundw
        case rel => first | exact HREL | ((repeat apply Exists.intro); exact ⟨HREL, rfl⟩)
        case measure => simp [RowKit.intOf]; omega
    · obtain rfl : i = 0 := by omega
      have HP : Hid (LastIs (pOf cut) s.data.toList (-1)) := Lib.hid (.inl ⟨rfl, fun k hk h => HALL.out k hk (Nat.zero_le _) h⟩)
      clear h0
      go_wp2_with fail
      go_ret
      exact ⟨_, rfl, HP.out, B⟩
set_option maxHeartbeats 2000000 in
set_option maxRecDepth 1000000 in
theorem gLa_low1 (s cut : ByteArray) (w : World) (hs : s.size ≤ 4294967296) (hc : cut.size < 4294967281) (hT : Utf8Tabs 2 3 w) (h3 : 0 < cut.size) (hs1 : s.size ≠ 1) (h8 : ¬ 8 < s.size) (h1 : cut.size = 1) :
    Calls Tryd.prog 48 #[.string s, .string cut] w (LaPost w s cut) := by
  have HT := Lib.hid hT
  have hv116 := zeroSet
  have hi116 := infoSet
  have hsl : s.data.toList.length = s.size := (Lib.size_eq s).symm
  have mixed : Tryd.prog.follows Departure.mixedOrders = true := by kernel_rfl
  have HI : Hid (∀ (r : Nat) W, Calls Tryd.prog 75 #[.string cut, .int .i32 (r : Int)] W fun e w' => e = .returned (.int .i64 (irOf cut (r : Int))) ∧ Below W.heap.size W w') := Lib.hid (fun r W => gIndexRune cut (r : Int) W hc)
  clear hT
  have hemp : cut.toList.isEmpty = false := by
    rw [Lib.toList_data]
    cases h : cut.data.toList with
    | nil => have := Lib.size_eq cut; rw [h, List.length_nil] at this; omega
    | cons _ _ => rfl
  have hne1 : ((s.size : Int) == 1) = false := beq_eq_false_iff_ne.2 (by omega)
  have HU := Lib.hid (fun (W : World) => shouldUse s.size W)
  rw [decide_eq_false h8] at HU
  have BA := Below.refl w.heap.size w
  obtain ⟨c, hx⟩ : ∃ c, cut[0]'h3 = c := ⟨_, rfl⟩
  have hl1 := list_one h3 h1 hx
  have hw32 : wrap32 (c.toNat : Int) = (c.toNat : Int) := by have := c.toNat_lt; unfold wrap32; omega
  have HPC : Hid (∀ R, Scal R → (pOf cut R = true ↔ R = rcOf c)) := Lib.hid (fun R hR => pOf_one cut c hl1 R hR)
  have hn1 : ((cut.size : Int) == 1) = true := beq_iff_eq.2 (by omega)
  have hcp2 : (0 : Int) < (cut.size : Int) := by omega
  clear hl1 h1
  by_cases hcb : c.toNat < 128
  · have hrc : rcOf c = c.toNat := if_pos hcb
    have g9 : ¬ ((128 : Int) ≤ (c.toNat : Int)) := by omega
    rw [hrc] at HPC
    clear hrc hcb
    go_enter Tryd.func48, Tryd.ntmps48
    go_wp2_with (go_at_call 76; refine (HU.out _).mono ?_; rintro e w' ⟨rfl, hw⟩; rw [hw])
    (try simp only [hw32])
    go_loopw [10] (LaRel w cut s) (fun v _ => (RowKit.intOf v).toNat)
    case atStart => exact ⟨s.data.toList.length, by rw [← Lib.size_eq], St.len _, fun k hk h1 h2 => by omega, BA⟩
    case round =>
      obtain ⟨i, rfl, hst, hall, B⟩ := hrel
      have HALL := Lib.hid hall
      have hil := hst.le
      clear hall
      by_cases h0 : 0 < i
      · obtain ⟨j, hj, hjl, hji, hw⟩ := hst.pred h0
        have hlast := hj.last hjl
        rw [hw] at hlast
        have htd : (s.extract 0 i).data.toList = s.data.toList.take i := by rw [Lib.extract_upto]
        have hts : (s.extract 0 i).size = i := by rw [Lib.extract_upto, Lib.size_mk, List.length_take]; omega
        obtain ⟨R, hR⟩ : ∃ R, rn s.data.toList j = R := ⟨_, rfl⟩
        obtain ⟨W0, hW⟩ : ∃ W0, wd s.data.toList j = W0 := ⟨_, rfl⟩
        have HD : Hid (∀ W, Below w.heap.size w W → Calls Tryd.prog 79 #[.string (s.extract 0 i)] W fun e w' => e = .returned (.tuple #[.int .i32 (R : Int), .int .i64 (W0 : Int)]) ∧ Below W.heap.size W w') := Lib.hid (fun W hB => by
          have h := Tryd.utf8_DecodeLastRuneInString (s.extract 0 i) W (by omega) (Utf8Tabs_below HT.out hB)
          rw [htd, hlast] at h
          rw [← hR, ← hW]
          exact h)
        rw [hW] at hw
        have e1 : (i : Int) - (W0 : Int) = (j : Int) := by omega
        have e2 : (i : Int) ≤ (s.size : Int) := by omega
        have e3 : (0 : Int) ≤ (i : Int) := by omega
        have e4 : (0 : Int) < (i : Int) := by omega
        have HPQ : Hid (pOf cut R = true ↔ R = c.toNat) := Lib.hid (HPC.out R (hR ▸ rn_scal _ _))
        have HR := Lib.hid hR
        have HJ := Lib.hid hj
        have HST := Lib.hid hst
        have HW := Lib.hid hW
        clear hlast htd hts hj hst
        cases hp : pOf cut R with
        | true =>
          have g1 : ((c.toNat : Int) == (R : Int)) = true := by rw [HPQ.out.1 hp]; exact beq_self_eq_true _
          have HP : Hid (LastIs (pOf cut) s.data.toList (j : Int)) := Lib.hid (.inr ⟨j, rfl, HJ.out, hjl, by rw [HR.out]; exact hp, fun k hk h1 h2 => HALL.out k hk (by have := HJ.out.chain hk h1; rw [HW.out] at this; omega) h2⟩)
          clear hp hR hW
          go_wp2_with (go_at_call 79; refine (HD.out _ B).mono ?_; rintro e w2 ⟨rfl, hB2⟩; have B2 := B.trans (hB2.mono B.size))
          go_ret
          exact ⟨_, rfl, HP.out, B2⟩
        | false =>
          have g1 : ((c.toNat : Int) == (R : Int)) = false := beq_eq_false_iff_ne.2 (fun e => by have h := HPQ.out.2 (by omega); rw [hp] at h; cases h)
          have hne : ¬ (R = c.toNat) := fun e => by have h := HPQ.out.2 e; rw [hp] at h; cases h
          have g11 : ¬ ((c.toNat : Int) = (R : Int)) := by omega
          have g12 : ¬ ((R : Int) = (c.toNat : Int)) := by omega
          have g13 : ((R : Int) == (c.toNat : Int)) = false := beq_eq_false_iff_ne.2 g12
          have HP := Lib.hid hp
          clear hp hR hW
          go_wp2_with (go_at_call 79; refine (HD.out _ B).mono ?_; rintro e w2 ⟨rfl, hB2⟩; have B2 := B.trans (hB2.mono B.size))
          have HREL : LaRel w cut s (.int .i64 (j : Int)) _ := ⟨j, rfl, HJ.out, fun k hk h1 h2 => by
            by_cases e : k = j
            · subst e; rw [HR.out]; exact HP.out
            · have := HJ.out.chain hk (by omega)
              rw [HW.out] at this
              exact HALL.out k hk (by omega) h2, B2⟩
          go_roundw
          case rel => first | exact HREL | ((repeat apply Exists.intro); exact ⟨HREL, rfl⟩)
          case measure => simp [RowKit.intOf]; omega
      · obtain rfl : i = 0 := by omega
        have HP : Hid (LastIs (pOf cut) s.data.toList (-1)) := Lib.hid (.inl ⟨rfl, fun k hk h => HALL.out k hk (Nat.zero_le _) h⟩)
        clear h0
        go_wp2_with fail
        go_ret
        exact ⟨_, rfl, HP.out, B⟩
  · have hrc : rcOf c = 65533 := if_neg hcb
    have g9 : (128 : Int) ≤ (c.toNat : Int) := by omega
    rw [hrc] at HPC
    clear hrc hcb
    go_enter Tryd.func48, Tryd.ntmps48
    go_wp2_with (go_at_call 76; refine (HU.out _).mono ?_; rintro e w' ⟨rfl, hw⟩; rw [hw])
    (try simp only [hw32])
    go_loopw [10] (LaRel w cut s) (fun v _ => (RowKit.intOf v).toNat)
    case atStart => exact ⟨s.data.toList.length, by rw [← Lib.size_eq], St.len _, fun k hk h1 h2 => by omega, BA⟩
    case round =>
      obtain ⟨i, rfl, hst, hall, B⟩ := hrel
      have HALL := Lib.hid hall
      have hil := hst.le
      clear hall
      by_cases h0 : 0 < i
      · obtain ⟨j, hj, hjl, hji, hw⟩ := hst.pred h0
        have hlast := hj.last hjl
        rw [hw] at hlast
        have htd : (s.extract 0 i).data.toList = s.data.toList.take i := by rw [Lib.extract_upto]
        have hts : (s.extract 0 i).size = i := by rw [Lib.extract_upto, Lib.size_mk, List.length_take]; omega
        obtain ⟨R, hR⟩ : ∃ R, rn s.data.toList j = R := ⟨_, rfl⟩
        obtain ⟨W0, hW⟩ : ∃ W0, wd s.data.toList j = W0 := ⟨_, rfl⟩
        have HD : Hid (∀ W, Below w.heap.size w W → Calls Tryd.prog 79 #[.string (s.extract 0 i)] W fun e w' => e = .returned (.tuple #[.int .i32 (R : Int), .int .i64 (W0 : Int)]) ∧ Below W.heap.size W w') := Lib.hid (fun W hB => by
          have h := Tryd.utf8_DecodeLastRuneInString (s.extract 0 i) W (by omega) (Utf8Tabs_below HT.out hB)
          rw [htd, hlast] at h
          rw [← hR, ← hW]
          exact h)
        rw [hW] at hw
        have e1 : (i : Int) - (W0 : Int) = (j : Int) := by omega
        have e2 : (i : Int) ≤ (s.size : Int) := by omega
        have e3 : (0 : Int) ≤ (i : Int) := by omega
        have e4 : (0 : Int) < (i : Int) := by omega
        have HPQ : Hid (pOf cut R = true ↔ R = 65533) := Lib.hid (HPC.out R (hR ▸ rn_scal _ _))
        have HR := Lib.hid hR
        have HJ := Lib.hid hj
        have HST := Lib.hid hst
        have HW := Lib.hid hW
        clear hlast htd hts hj hst
        cases hp : pOf cut R with
        | true =>
          have g1 : ((65533 : Int) == (R : Int)) = true := by rw [HPQ.out.1 hp]; rfl
          have HP : Hid (LastIs (pOf cut) s.data.toList (j : Int)) := Lib.hid (.inr ⟨j, rfl, HJ.out, hjl, by rw [HR.out]; exact hp, fun k hk h1 h2 => HALL.out k hk (by have := HJ.out.chain hk h1; rw [HW.out] at this; omega) h2⟩)
          clear hp hR hW
          go_wp2_with (go_at_call 79; refine (HD.out _ B).mono ?_; rintro e w2 ⟨rfl, hB2⟩; have B2 := B.trans (hB2.mono B.size))
          go_ret
          exact ⟨_, rfl, HP.out, B2⟩
        | false =>
          have g1 : ((65533 : Int) == (R : Int)) = false := beq_eq_false_iff_ne.2 (fun e => by have h := HPQ.out.2 (by omega); rw [hp] at h; cases h)
          have hne : ¬ (R = 65533) := fun e => by have h := HPQ.out.2 e; rw [hp] at h; cases h
          have g11 : ¬ ((65533 : Int) = (R : Int)) := by omega
          have g12 : ¬ ((R : Int) = (65533 : Int)) := by omega
          have g13 : ((R : Int) == (65533 : Int)) = false := beq_eq_false_iff_ne.2 g12
          have HP := Lib.hid hp
          clear hp hR hW
          go_wp2_with (go_at_call 79; refine (HD.out _ B).mono ?_; rintro e w2 ⟨rfl, hB2⟩; have B2 := B.trans (hB2.mono B.size))
          have HREL : LaRel w cut s (.int .i64 (j : Int)) _ := ⟨j, rfl, HJ.out, fun k hk h1 h2 => by
            by_cases e : k = j
            · subst e; rw [HR.out]; exact HP.out
            · have := HJ.out.chain hk (by omega)
              rw [HW.out] at this
              exact HALL.out k hk (by omega) h2, B2⟩
          go_roundw
          case rel => first | exact HREL | ((repeat apply Exists.intro); exact ⟨HREL, rfl⟩)
          case measure => simp [RowKit.intOf]; omega
      · obtain rfl : i = 0 := by omega
        have HP : Hid (LastIs (pOf cut) s.data.toList (-1)) := Lib.hid (.inl ⟨rfl, fun k hk h => HALL.out k hk (Nat.zero_le _) h⟩)
        clear h0
        go_wp2_with fail
        go_ret
        exact ⟨_, rfl, HP.out, B⟩
set_option maxHeartbeats 2000000 in
set_option maxRecDepth 1000000 in
theorem gLa_low2 (s cut : ByteArray) (w : World) (hs : s.size ≤ 4294967296) (hc : cut.size < 4294967281) (hT : Utf8Tabs 2 3 w) (h3 : 0 < cut.size) (hs1 : s.size ≠ 1) (h8 : ¬ 8 < s.size) (h1 : cut.size ≠ 1) :
    Calls Tryd.prog 48 #[.string s, .string cut] w (LaPost w s cut) := by
  have HT := Lib.hid hT
  have hv116 := zeroSet
  have hi116 := infoSet
  have hsl : s.data.toList.length = s.size := (Lib.size_eq s).symm
  have mixed : Tryd.prog.follows Departure.mixedOrders = true := by kernel_rfl
  have HI : Hid (∀ (r : Nat) W, Calls Tryd.prog 75 #[.string cut, .int .i32 (r : Int)] W fun e w' => e = .returned (.int .i64 (irOf cut (r : Int))) ∧ Below W.heap.size W w') := Lib.hid (fun r W => gIndexRune cut (r : Int) W hc)
  clear hT
  have hemp : cut.toList.isEmpty = false := by
    rw [Lib.toList_data]
    cases h : cut.data.toList with
    | nil => have := Lib.size_eq cut; rw [h, List.length_nil] at this; omega
    | cons _ _ => rfl
  have hne1 : ((s.size : Int) == 1) = false := beq_eq_false_iff_ne.2 (by omega)
  have HU := Lib.hid (fun (W : World) => shouldUse s.size W)
  rw [decide_eq_false h8] at HU
  have BA := Below.refl w.heap.size w
  have hn1 : ((cut.size : Int) == 1) = false := beq_eq_false_iff_ne.2 (by omega)
  clear h1
  go_enter Tryd.func48, Tryd.ntmps48
  go_wp2_with (go_at_call 76; refine (HU.out _).mono ?_; rintro e w' ⟨rfl, hw⟩; rw [hw])
  go_loopw [13] (LaRel w cut s) (fun v _ => (RowKit.intOf v).toNat)
  case atStart => exact ⟨s.data.toList.length, by rw [← Lib.size_eq], St.len _, fun k hk h1 h2 => by omega, BA⟩
  case round =>
    obtain ⟨i, rfl, hst, hall, B⟩ := hrel
    have HALL := Lib.hid hall
    have hil := hst.le
    clear hall
    by_cases h0 : 0 < i
    · obtain ⟨j, hj, hjl, hji, hw⟩ := hst.pred h0
      have hlast := hj.last hjl
      rw [hw] at hlast
      have htd : (s.extract 0 i).data.toList = s.data.toList.take i := by rw [Lib.extract_upto]
      have hts : (s.extract 0 i).size = i := by rw [Lib.extract_upto, Lib.size_mk, List.length_take]; omega
      obtain ⟨R, hR⟩ : ∃ R, rn s.data.toList j = R := ⟨_, rfl⟩
      obtain ⟨W0, hW⟩ : ∃ W0, wd s.data.toList j = W0 := ⟨_, rfl⟩
      have HD : Hid (∀ W, Below w.heap.size w W → Calls Tryd.prog 79 #[.string (s.extract 0 i)] W fun e w' => e = .returned (.tuple #[.int .i32 (R : Int), .int .i64 (W0 : Int)]) ∧ Below W.heap.size W w') := Lib.hid (fun W hB => by
        have h := Tryd.utf8_DecodeLastRuneInString (s.extract 0 i) W (by omega) (Utf8Tabs_below HT.out hB)
        rw [htd, hlast] at h
        rw [← hR, ← hW]
        exact h)
      rw [hW] at hw
      have e1 : (i : Int) - (W0 : Int) = (j : Int) := by omega
      have e2 : (i : Int) ≤ (s.size : Int) := by omega
      have e3 : (0 : Int) ≤ (i : Int) := by omega
      have e4 : (0 : Int) < (i : Int) := by omega
      have HR := Lib.hid hR
      have HJ := Lib.hid hj
      have HST := Lib.hid hst
      have HW := Lib.hid hW
      clear hlast htd hts hj hst
      cases hp : pOf cut R with
      | true =>
        have g1 : (0 : Int) ≤ irOf cut (R : Int) := of_decide_eq_true hp
        have HP : Hid (LastIs (pOf cut) s.data.toList (j : Int)) := Lib.hid (.inr ⟨j, rfl, HJ.out, hjl, by rw [HR.out]; exact hp, fun k hk h1 h2 => HALL.out k hk (by have := HJ.out.chain hk h1; rw [HW.out] at this; omega) h2⟩)
        clear hp hR hW
        go_wp2_with (first
          | (go_at_call 75; have B2' := B2; refine (HI.out R _).mono ?_; rintro e w3 ⟨rfl, hB3⟩; have B3 := B2.trans (hB3.mono B2.size))
          | (go_at_call 79; refine (HD.out _ B).mono ?_; rintro e w2 ⟨rfl, hB2⟩; have B2 := B.trans (hB2.mono B.size)))
        go_ret
        exact ⟨_, rfl, HP.out, B3⟩
      | false =>
        have g1 : irOf cut (R : Int) < 0 := by have := of_decide_eq_false hp; omega
        have HP := Lib.hid hp
        clear hp hR hW
        go_wp2_with (first
          | (go_at_call 75; have B2' := B2; refine (HI.out R _).mono ?_; rintro e w3 ⟨rfl, hB3⟩; have B3 := B2.trans (hB3.mono B2.size))
          | (go_at_call 79; refine (HD.out _ B).mono ?_; rintro e w2 ⟨rfl, hB2⟩; have B2 := B.trans (hB2.mono B.size)))
        have HREL : LaRel w cut s (.int .i64 (j : Int)) _ := ⟨j, rfl, HJ.out, fun k hk h1 h2 => by
          by_cases e : k = j
          · subst e; rw [HR.out]; exact HP.out
          · have := HJ.out.chain hk (by omega)
            rw [HW.out] at this
            exact HALL.out k hk (by omega) h2, B3⟩
        go_roundw
        case rel => first | exact HREL | ((repeat apply Exists.intro); exact ⟨HREL, rfl⟩)
        case measure => simp [RowKit.intOf]; omega
    · obtain rfl : i = 0 := by omega
      have HP : Hid (LastIs (pOf cut) s.data.toList (-1)) := Lib.hid (.inl ⟨rfl, fun k hk h => HALL.out k hk (Nat.zero_le _) h⟩)
      clear h0
      go_wp2_with fail
      go_ret
      exact ⟨_, rfl, HP.out, B⟩
theorem gLastIndexAny (s cut : ByteArray) (w : World) (hs : s.size ≤ 4294967296) (hc : cut.size < 4294967281) (hT : Utf8Tabs 2 3 w) :
    Calls Tryd.prog 48 #[.string s, .string cut] w (LaPost w s cut) := by
  rcases pos_or cut with h3 | h3
  · exact gLa_nil s cut w hs hc hT h3
  by_cases hs1 : s.size = 1
  · exact gLa_one s cut w hs hc hT h3 hs1
  by_cases h8 : 8 < s.size
  · rcases high_or cut with ha | ⟨n0, hf⟩
    · exact gLa_set s cut w hs hc hT h3 hs1 h8 ha
    · by_cases h1 : cut.size = 1
      · exact gLa_high1 s cut w hs hc hT h3 hs1 h8 n0 hf h1
      · exact gLa_high2 s cut w hs hc hT h3 hs1 h8 n0 hf h1
  · by_cases h1 : cut.size = 1
    · exact gLa_low1 s cut w hs hc hT h3 hs1 h8 h1
    · exact gLa_low2 s cut w hs hc hT h3 hs1 h8 h1
set_option maxHeartbeats 800000 in
theorem implLastIndexAny (s cut : ByteArray) (w : World) (hs : s.size ≤ 4294967296) (hc : cut.size < 4294967281) (hT : Utf8Tabs 2 3 w) :
    Calls Tryd.prog 20 #[.string s, .string cut] w (LaPost w s cut) := by
  have H := Lib.hid (gLastIndexAny s cut w hs hc hT)
  clear hT
  go_enter Tryd.func20, Tryd.ntmps20
  go_wp2_with (go_at_call 48; refine H.out.mono ?_; rintro e w' ⟨v, rfl, hv, hB⟩)
  go_ret
  exact LaPost.ret hv hB
theorem last_ab : LastIs (pOf ⟨#[98]⟩) (⟨#[97, 98]⟩ : ByteArray).data.toList 1 := by
  have hm : ∀ c ∈ (⟨#[98]⟩ : ByteArray).data.toList, c.toNat < 128 := by decide
  have h := ascii_at (cut := ⟨#[98]⟩) (l := (⟨#[97, 98]⟩ : ByteArray).data.toList) (i := 1) hm (by decide) (by decide)
  exact .inr ⟨1, rfl, h.1, by decide, h.2, fun k _ h1 h2 => by have : k < 2 := h2; omega⟩
set_option maxHeartbeats 3200000 in
set_option maxRecDepth 100000 in
theorem walk_FnStrLastIndexAny (a0 a1 : ByteArray) (w : World) (w0 : a0.size ≤ maxLen) (w1 : a1.size ≤ maxLen) (htab : Lib.Utf8Tabs 2 3 w) :
    Calls Tryd.prog 4 #[.string a0, .string a1] w fun e w' => e = .returned (.bool true) ∧ Below w.heap.size w w' := by
  have hnot : ∀ (x : Bool) (w : World), (Op.unary .not (.bool x)).run Tryd.prog w = .ok (.bool (!x)) w := fun _ _ => rfl
  have hm : maxLen = 9223372036854775807 := rfl
  rw [hm] at w0 w1
  clear hm
  by_cases h0 : 2147483647 < a0.size
  · go_enter Tryd.func4, Tryd.ntmps4
    go_wp2
    go_ret
    exact ⟨rfl, Below.refl _ _⟩
  by_cases h1 : 2147483647 < a1.size
  · go_enter Tryd.func4, Tryd.ntmps4
    go_wp2
    go_ret
    exact ⟨rfl, Below.refl _ _⟩
  have HV0 := Lib.hid (fun (W : World) => specSeValid a0 W (by omega))
  have HV1 := Lib.hid (fun (W : World) => specSeValid a1 W (by omega))
  cases hv0 : validR a0 with
  | false =>
    rw [hv0] at HV0
    go_enter Tryd.func4, Tryd.ntmps4
    go_wp2_with (go_at_call 14; refine (HV0.out _).mono ?_; rintro e w2 ⟨rfl, hB2⟩)
    go_ret
    exact ⟨rfl, hB2⟩
  | true =>
  rw [hv0] at HV0
  cases hv1 : validR a1 with
  | false =>
    rw [hv1] at HV1
    go_enter Tryd.func4, Tryd.ntmps4
    go_wp2_with (first
      | (go_at_call 14; have B1' := B1; refine (HV1.out _).mono ?_; rintro e w2 ⟨rfl, hB2⟩)
      | (go_at_call 14; refine (HV0.out _).mono ?_; rintro e w2 ⟨rfl, B1⟩))
    go_ret
    exact ⟨rfl, B1.trans (hB2.mono B1.size)⟩
  | true =>
  rw [hv1] at HV1
  have HT := Lib.hid htab
  have hlast := last_is a0 a1
  have S1 := Lib.hid (fun (W : World) => specLastOf a0 a1 true W (by omega) (by omega))
  generalize lastW a0 (fun r => hasR a1 r == true) (starts a0) (-1) = V at *
  have I1 : Hid (∀ W, Below w.heap.size w W → Calls Tryd.prog 20 #[.string a0, .string a1] W fun e w' => e = .returned (.int .i64 V) ∧ Below W.heap.size W w') := Lib.hid (fun W hB => (implLastIndexAny a0 a1 W (by omega) (by omega) (Utf8Tabs_below HT.out hB)).mono (fun e w' ⟨v, h1, h2, h3⟩ => ⟨by rw [h1, h2.one hlast], h3⟩))
  have I2 : Hid (∀ W, Below w.heap.size w W → Calls Tryd.prog 20 #[.string ⟨#[97, 98]⟩, .string ⟨#[98]⟩] W fun e w' => e = .returned (.int .i64 1) ∧ Below W.heap.size W w') := Lib.hid (fun W hB => (implLastIndexAny ⟨#[97, 98]⟩ ⟨#[98]⟩ W (by decide) (by decide) (Utf8Tabs_below HT.out hB)).mono (fun e w' ⟨v, h1, h2, h3⟩ => ⟨by rw [h1, h2.one last_ab], h3⟩))
  clear hlast htab hv0 hv1
  go_enter Tryd.func4, Tryd.ntmps4
  go_wp2_with (first
    | (go_at_call 20; have B4' := B4; refine (I2.out _ B4).mono ?_; rintro e w5 ⟨rfl, hB5⟩; have B5 := B4.trans (hB5.mono B4.size))
    | (go_at_call 21; have B3' := B3; refine (S1.out _).mono ?_; rintro e w4 ⟨rfl, hB4⟩; have B4 := B3.trans (hB4.mono B3.size))
    | (go_at_call 20; have B2' := B2; refine (I1.out _ B2).mono ?_; rintro e w3 ⟨rfl, hB3⟩; have B3 := B2.trans (hB3.mono B2.size))
    | (go_at_call 14; have B1' := B1; refine (HV1.out _).mono ?_; rintro e w2 ⟨rfl, hB2⟩; have B2 := B1.trans (hB2.mono B1.size))
    | (go_at_call 14; refine (HV0.out _).mono ?_; rintro e w1' ⟨rfl, B1⟩))
  all_goals (go_ret; exact ⟨rfl, B5⟩)
end Go.Proofs.YthnbifkcbeldmaaDoor
