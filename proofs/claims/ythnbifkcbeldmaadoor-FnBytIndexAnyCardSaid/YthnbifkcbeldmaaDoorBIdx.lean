/- gobytes.IndexAny over rows. -/
import Derived.Test.YthnbifkcbeldmaaDoorBAny
import Derived.Laws.RangeAny
namespace Go.Proofs.YthnbifkcbeldmaaDoor
open Go Go.Shelf Go.RowKit Go.Lib
set_option linter.unusedVariables false
theorem firstOfSet {cut : ByteArray} {l : List UInt8} {V : Int} (ha : ∀ c ∈ cut.data.toList, c.toNat < 128) (h : (V = -1 ∧ ∀ k, k < l.length → cut.data.toList.contains (l.getD k 0) = false) ∨ ∃ i : Nat, V = (i : Int) ∧ i < l.length ∧ cut.data.toList.contains (l.getD i 0) = true ∧ ∀ k, k < i → cut.data.toList.contains (l.getD k 0) = false) : FirstIs (pOf cut) l V := by
  rcases h with ⟨h1, h2⟩ | ⟨i, h1, h2, h3, h4⟩
  · exact .inl ⟨h1, fun j hj hl => ascii_no ha hl (h2 j hl) hj⟩
  · have hat := ascii_at ha h2 h3
    exact .inr ⟨i, h1, hat.1, h2, hat.2, fun k hk hki => ascii_no ha (by omega) (h4 k hki) hk⟩
set_option maxHeartbeats 1600000 in
set_option maxRecDepth 1000000 in
theorem gbIdxRuneA (b o cp : Nat) (s : ByteArray) (c : UInt8) (w : World) (hr : Row w b o s) (hs : s.size ≤ 2147483647) (hc : c.toNat < 128) :
    Calls Tryd.prog 106 #[.slice (some ⟨b, o, none⟩) s.size cp, .int .i32 (c.toNat : Int)] w fun e w' => e = .returned (.int .i64 (Lib.indexByte s.data.toList c)) ∧ w' = w := by
  have HC := Lib.hid (gbIndexByte b o cp s (c.toNat : Int) w hr (by omega) (by omega) (by omega))
  have e : (c.toNat : Int).toNat.toUInt8 = c := by simp
  rw [e] at HC
  have hc1 : (c.toNat : Int) % 256 = (c.toNat : Int) := by omega
  have h0 : (0 : Int) ≤ (c.toNat : Int) := by omega
  have h1 : (c.toNat : Int) < 128 := by omega
  clear e hr hc
  go_enter Tryd.func106, Tryd.ntmps106
  go_wp2_with (go_at_call 127; refine HC.out.mono ?_; rintro e w' ⟨rfl, hw⟩; rw [hw])
  go_ret
  exact ⟨rfl, rfl⟩
set_option maxHeartbeats 1600000 in
set_option maxRecDepth 1000000 in
theorem gbIdxRuneE (b o cp : Nat) (s : ByteArray) (w : World) (hr : Row w b o s) (hcap : s.size ≤ cp) (hm : cp ≤ maxLen) (hs : s.size ≤ 2147483647) (hT : Utf8Tabs 2 3 w) :
    Calls Tryd.prog 106 #[.slice (some ⟨b, o, none⟩) s.size cp, .int .i32 65533] w fun e w' => ∃ v : Int, e = .returned (.int .i64 v) ∧ FirstIs (fun R => R == 65533) s.data.toList v ∧ Below w.heap.size w w' := by
  have HT := Lib.hid hT
  have HR := Lib.hid hr
  have hsl : s.data.toList.length = s.size := (Lib.size_eq s).symm
  obtain ⟨p, hp⟩ : ∃ p : Nat → Bool, p = fun R => R == 65533 := ⟨_, rfl⟩
  have HP0 : Hid (∀ R, p R = (R == 65533)) := Lib.hid (fun R => by rw [hp])
  rw [← hp]
  unfold maxLen at hm
  clear hT hr hp
  go_enter Tryd.func106, Tryd.ntmps106
  go_wp2_with fail
  go_loopw [5, 6, 7] (fun v _ _ wr => ∃ i : Nat, v = .int .i64 (i : Int) ∧ i ≤ s.size ∧ St s.data.toList i ∧ (∀ k, St s.data.toList k → k < i → p (rn s.data.toList k) = false) ∧ Below w.heap.size w wr) (fun v _ _ _ => s.size - (RowKit.intOf v).toNat)
  case atStart => exact ⟨0, rfl, Nat.zero_le _, St.zero _, fun k _ h => absurd h (Nat.not_lt_zero _), Below.refl _ _⟩
  case round =>
    obtain ⟨i, rfl, hil, hst, hall, B⟩ := hrel
    have HALL := Lib.hid hall
    have HST := Lib.hid hst
    clear hall hst
    by_cases hlt : i < s.size
    · have hltz : (i : Int) < (s.size : Int) := by omega
      have hil2 : i < s.data.toList.length := by omega
      have hwd := wd_le s.data.toList i hil2
      obtain ⟨R, hR⟩ : ∃ R, rn s.data.toList i = R := ⟨_, rfl⟩
      obtain ⟨W0, hWd⟩ : ∃ W0, wd s.data.toList i = W0 := ⟨_, rfl⟩
      have HD : Hid (Calls Tryd.prog 94 #[.slice (some ⟨b, o + i, none⟩) (s.size - i) (cp - i)] wr fun e w' => e = .returned (.tuple #[.int .i32 (R : Int), .int .i64 (W0 : Int)]) ∧ Below wr.heap.size wr w') := Lib.hid (by
        have h := decRow b (o + i) (cp - i) (s.extract i s.size) wr (Row.sub (HR.out.later B) i s.size (Nat.le_refl _)) (Utf8Tabs_below HT.out B)
        rw [decode_sub s i hlt, dec_list, show (s.extract i s.size).size = s.size - i by rw [ByteArray.size_extract]; omega] at h
        rw [← hR, ← hWd]
        exact h)
      rw [hWd] at hwd
      have HRN := Lib.hid hR
      have HWD := Lib.hid hWd
      have hci : ¬ (cp = i) := by omega
      have d1 : (i : Int) ≤ (s.size : Int) := by omega
      clear hR hWd
      by_cases hne : R = 65533
      · have g3 : ((R : Int) == 65533) = true := beq_iff_eq.2 (by omega)
        have HP : Hid (FirstIs p s.data.toList (i : Int)) := Lib.hid (.inr ⟨i, rfl, HST.out, hil2, by rw [HRN.out, HP0.out, hne]; rfl, HALL.out⟩)
        clear hne
        go_wp2_with (go_at_call 94; refine HD.out.mono ?_; rintro e w2 ⟨rfl, hB2⟩; have B2 : Below w.heap.size w w2 := B.trans (hB2.mono B.size))
        go_ret
        exact ⟨_, rfl, HP.out, B2⟩
      · have g3 : ((R : Int) == 65533) = false := beq_eq_false_iff_ne.2 (by omega)
        have HPF : Hid (p R = false) := Lib.hid (by rw [HP0.out]; exact beq_eq_false_iff_ne.2 hne)
        clear hne
        go_wp2_with (go_at_call 94; refine HD.out.mono ?_; rintro e w2 ⟨rfl, hB2⟩; have B2 : Below w.heap.size w w2 := B.trans (hB2.mono B.size))
        go_roundw
        case rel => exact ⟨i + W0, by go_num, by omega, by have := HST.out.next hil2; rw [HWD.out] at this; exact this, fun k hk h => by
          by_cases e1 : k < i
          · exact HALL.out k hk e1
          · by_cases e2 : k = i
            · subst e2; rw [HRN.out]; exact HPF.out
            · have := HST.out.chain hk (by omega); rw [HWD.out] at this; omega, B2⟩
        case measure => simp [RowKit.intOf]; omega
    · have hltz : ¬ (i : Int) < (s.size : Int) := by omega
      have HP : Hid (FirstIs p s.data.toList (-1)) := Lib.hid (.inl ⟨rfl, fun k hk hkl => HALL.out k hk (by omega)⟩)
      clear hlt
      go_wp2_with fail
      go_ret
      exact ⟨_, rfl, HP.out, B⟩
theorem FirstIs.congr {p q : Nat → Bool} {l : List UInt8} {v : Int} (h : ∀ j, p (rn l j) = q (rn l j)) (hf : FirstIs p l v) : FirstIs q l v := by
  rcases hf with ⟨h1, h2⟩ | ⟨j, h1, h2, h3, h4, h5⟩
  · exact .inl ⟨h1, fun j hj hl => (h j).symm.trans (h2 j hj hl)⟩
  · exact .inr ⟨j, h1, h2, h3, (h j).symm.trans h4, fun k hk hkj => (h k).symm.trans (h5 k hk hkj)⟩
theorem index_has (l : List UInt8) (c : UInt8) : (Lib.indexByte l c = -1 ∧ ∀ k, k < l.length → ([c] : List UInt8).contains (l.getD k 0) = false) ∨ ∃ i : Nat, Lib.indexByte l c = (i : Int) ∧ i < l.length ∧ ([c] : List UInt8).contains (l.getD i 0) = true ∧ ∀ k, k < i → ([c] : List UInt8).contains (l.getD k 0) = false := by
  have key : ∀ k, k < l.length → ([c] : List UInt8).contains (l.getD k 0) = Lib.occAt l [c] k := fun k hk => by
    unfold occAt
    rw [List.drop_eq_getElem_cons hk, List.getD_eq_getElem?_getD, List.getElem?_eq_getElem hk]
    simp [List.isPrefixOf, List.contains_cons, eq_comm]
    rfl
  rw [← Lib.index_one]
  rcases Lib.index_spec l [c] with ⟨h1, h2⟩ | ⟨i, h1, h2, h3, h4⟩
  · exact .inl ⟨h1, fun k hk => by rw [key k hk]; exact h2 k (by omega)⟩
  · have hi : i < l.length := by
      rcases Nat.lt_or_ge i l.length with h | h
      · exact h
      · exfalso
        unfold occAt at h3
        rw [List.drop_eq_nil_of_le h] at h3
        simp [List.isPrefixOf] at h3
    exact .inr ⟨i, h1, hi, by rw [key i hi]; exact h3, fun k hk => by rw [key k (by omega)]; exact h4 k hk⟩
set_option maxHeartbeats 4000000 in
set_option maxRecDepth 1000000 in
theorem gIa_nil (b1 o1 c1 : Nat) (s cut : ByteArray) (w : World) (hr : Row w b1 o1 s) (hcap : s.size ≤ c1) (hm : c1 ≤ maxLen) (hs : s.size ≤ 2147483647) (hc : cut.size < 4294967281) (hT : Utf8Tabs 2 3 w) (h3 : cut.size = 0) :
    Calls Tryd.prog 65 #[.slice (some ⟨b1, o1, none⟩) s.size c1, .string cut] w (IaPost w s cut) := by
  have HT := Lib.hid hT
  have HR := Lib.hid hr
  have hv116 := gbZeroSet
  have hi116 := gbInfoSet
  have hsl : s.data.toList.length = s.size := (Lib.size_eq s).symm
  have mixed : Tryd.prog.follows Departure.mixedOrders = true := by kernel_rfl
  unfold maxLen at hm
  clear hT hr
  obtain rfl := nil_of h3
  have HP : Hid (FirstIs (pOf ⟨#[]⟩) s.data.toList (-1)) := Lib.hid (.inl ⟨rfl, fun j _ _ => pOf_nil _⟩)
  clear h3
  go_enter Tryd.func65, Tryd.ntmps65
  go_wp2_with fail
  go_ret
  exact IaPost.ret HP.out (Below.refl _ _)
set_option maxHeartbeats 4000000 in
set_option maxRecDepth 1000000 in
theorem gIa_one (b1 o1 c1 : Nat) (s cut : ByteArray) (w : World) (hr : Row w b1 o1 s) (hcap : s.size ≤ c1) (hm : c1 ≤ maxLen) (hs : s.size ≤ 2147483647) (hc : cut.size < 4294967281) (hT : Utf8Tabs 2 3 w) (h3 : 0 < cut.size) (hs1 : s.size = 1) :
    Calls Tryd.prog 65 #[.slice (some ⟨b1, o1, none⟩) s.size c1, .string cut] w (IaPost w s cut) := by
  have HT := Lib.hid hT
  have HR := Lib.hid hr
  have hv116 := gbZeroSet
  have hi116 := gbInfoSet
  have hsl : s.data.toList.length = s.size := (Lib.size_eq s).symm
  have mixed : Tryd.prog.follows Departure.mixedOrders = true := by kernel_rfl
  unfold maxLen at hm
  clear hT hr
  have hemp : cut.toList.isEmpty = false := by
    rw [Lib.toList_data]
    cases h : cut.data.toList with
    | nil => have := Lib.size_eq cut; rw [h, List.length_nil] at this; omega
    | cons _ _ => rfl
  have hs0 : 0 < s.size := by omega
  obtain ⟨b, hx⟩ : ∃ b, s[0]'hs0 = b := ⟨_, rfl⟩
  have hl1 := list_one hs0 hs1 hx
  have hrn : rn s.data.toList 0 = rcOf b := rn_one _ b hl1
  have hcell : w.cell? ⟨b1, o1, none⟩ = some (.int .u8 (b.toNat : Int)) := by have := HR.out 0 hs0; rw [hx, Nat.add_zero] at this; exact this
  have hw32 : wrap32 (b.toNat : Int) = (b.toNat : Int) := by have := b.toNat_lt; unfold wrap32; omega
  have HY : Hid (pOf cut (rcOf b) = true → FirstIs (pOf cut) s.data.toList 0) := Lib.hid (fun h => .inr ⟨0, rfl, St.zero _, by omega, by rw [hrn]; exact h, fun k _ h2 => by omega⟩)
  have HN : Hid (pOf cut (rcOf b) = false → FirstIs (pOf cut) s.data.toList (-1)) := Lib.hid (fun h => .inl ⟨rfl, fun k _ h2 => by
    obtain rfl : k = 0 := by omega
    rw [hrn]
    exact h⟩)
  have g0 : ((s.size : Int) == 1) = true := beq_iff_eq.2 (by omega)
  have g00 : (0 : Int) < (s.size : Int) := by omega
  clear hrn hl1 hx
  by_cases hb : b.toNat < 128
  · have hrc : rcOf b = b.toNat := if_pos hb
    rw [hrc] at HY HN
    have HIB := Lib.hid (ibStr cut b hb hc)
    have g1 : ¬ ((128 : Int) ≤ (b.toNat : Int)) := by omega
    clear hrc hs1 hsl
    cases hp : pOf cut b.toNat with
    | true =>
      have g2 : (0 : Int) ≤ irOf cut (b.toNat : Int) := of_decide_eq_true hp
      have HP := Lib.hid (HY.out hp)
      clear hp hb HY HN
      generalize irOf cut (b.toNat : Int) = V at g2 HIB
      go_enter Tryd.func65, Tryd.ntmps65
      go_wp2_with (first | (go_at_call 105; refine (HIB.out _).mono ?_; rintro e w2 ⟨rfl, hw⟩; rw [hw]))
      go_ret
      exact IaPost.ret HP.out (Below.refl _ _)
    | false =>
      have g2 : irOf cut (b.toNat : Int) < 0 := by have h : ¬ (0 ≤ irOf cut (b.toNat : Int)) := of_decide_eq_false hp; omega
      have HP := Lib.hid (HN.out hp)
      clear hp hb HY HN
      generalize irOf cut (b.toNat : Int) = V at g2 HIB
      go_enter Tryd.func65, Tryd.ntmps65
      go_wp2_with (first | (go_at_call 105; refine (HIB.out _).mono ?_; rintro e w2 ⟨rfl, hw⟩; rw [hw]))
      go_ret
      exact IaPost.ret HP.out (Below.refl _ _)
  · have hrc : rcOf b = 65533 := if_neg hb
    rw [hrc] at HY HN
    have g1 : (128 : Int) ≤ (b.toNat : Int) := by omega
    have BW : Below w.heap.size w w := Below.refl _ _
    have hph := pOf_has cut 65533 (.inr (by omega))
    have HPH := Lib.hid hph
    clear hrc hs1 hsl hb hph
    go_enter Tryd.func65, Tryd.ntmps65
    go_wp2_with fail
    go_loopg [5] cut.size (fun g _ wx => ∃ pos : Nat, wx = w.iter cut pos ∧ pos ≤ cut.size ∧ cut.size ≤ pos + g ∧ Hid ((tailStarts cut pos).any (isR cut 65533) = hasR cut 65533))
    case atStart => exact ⟨0, rfl, Nat.zero_le _, by omega, Lib.hid (by rw [tailStarts_zero]; rfl)⟩
    case round =>
      obtain ⟨pos, rfl, hp, hg, H⟩ := hrel
      have BI : Below w.heap.size w (w.iter cut pos) := BW.alloc BW.size _
      by_cases hlt2 : pos < cut.size
      · have hnx := fun ty => run_next_any (P := Tryd.prog) w cut pos ty hlt2
        have hw2 := decode_w_le cut pos hlt2
        have hw1 := decode_width_pos cut pos hlt2
        have HSS := H.out
        rw [tailStarts_step cut pos hlt2, List.any_cons] at HSS
        obtain ⟨g', rfl⟩ : ∃ g', gk = g' + 1 := ⟨gk - 1, by omega⟩
        by_cases hrr : (Utf8.decode cut pos).1 = 65533
        · have hD : (((Utf8.decode cut pos).1 : Int) == ((65533 : Nat) : Int)) = true := beq_iff_eq.2 (by omega)
          have hD2 : (((65533 : Nat) : Int) == ((Utf8.decode cut pos).1 : Int)) = true := beq_iff_eq.2 (by omega)
          have HQ : Hid (hasR cut 65533 = true) := Lib.hid (by rw [← HSS]; unfold isR; rw [hrr]; simp)
          clear HSS hrr
          go_wp2_with fail
          go_ret
          exact IaPost.ret (HY.out (HPH.out.trans HQ.out)) (BW.alloc BW.size _)
        · have hD : (((Utf8.decode cut pos).1 : Int) == ((65533 : Nat) : Int)) = false := beq_eq_false_iff_ne.2 (by omega)
          have hD2 : (((65533 : Nat) : Int) == ((Utf8.decode cut pos).1 : Int)) = false := beq_eq_false_iff_ne.2 (by omega)
          have HN2 : Hid ((tailStarts cut (pos + (Utf8.decode cut pos).2)).any (isR cut 65533) = hasR cut 65533) := Lib.hid (by rw [← HSS]; unfold isR; rw [beq_eq_false_iff_ne.2 hrr, Bool.false_or])
          clear HSS hrr
          go_wp2_with fail
          go_roundg g'
          case measure => omega
          case rel => exact ⟨_, rfl, hw2, by omega, HN2⟩
      · have hnx := fun ty => run_next_end (P := Tryd.prog) w cut pos ty hlt2
        have HQ : Hid (hasR cut 65533 = false) := Lib.hid (by rw [← H.out, tailStarts_end cut pos hlt2]; rfl)
        go_wp2_with fail
        go_ret
        exact IaPost.ret (HN.out (HPH.out.trans HQ.out)) BI
set_option maxHeartbeats 4000000 in
set_option maxRecDepth 1000000 in
theorem gIa_set (b1 o1 c1 : Nat) (s cut : ByteArray) (w : World) (hr : Row w b1 o1 s) (hcap : s.size ≤ c1) (hm : c1 ≤ maxLen) (hs : s.size ≤ 2147483647) (hc : cut.size < 4294967281) (hT : Utf8Tabs 2 3 w) (h3 : 0 < cut.size) (hs1 : s.size ≠ 1) (hn1 : cut.size ≠ 1) (h8 : 8 < s.size) (ha : ∀ (j : Nat) b, cut.data.toList[j]? = some b → b.toNat < 128) :
    Calls Tryd.prog 65 #[.slice (some ⟨b1, o1, none⟩) s.size c1, .string cut] w (IaPost w s cut) := by
  have HT := Lib.hid hT
  have HR := Lib.hid hr
  have hv116 := gbZeroSet
  have hi116 := gbInfoSet
  have hsl : s.data.toList.length = s.size := (Lib.size_eq s).symm
  have mixed : Tryd.prog.follows Departure.mixedOrders = true := by kernel_rfl
  unfold maxLen at hm
  clear hT hr
  have hemp : cut.toList.isEmpty = false := by
    rw [Lib.toList_data]
    cases h : cut.data.toList with
    | nil => have := Lib.size_eq cut; rw [h, List.length_nil] at this; omega
    | cons _ _ => rfl
  have hne1 : ((s.size : Int) == 1) = false := beq_eq_false_iff_ne.2 (by omega)
  have hnc1 : ((cut.size : Int) == 1) = false := beq_eq_false_iff_ne.2 (by omega)
  have HU := Lib.hid (fun (W : World) => gbShould s.size W)
  rw [decide_eq_true h8] at HU
  have hM := Lib.hid (bytes_makeASCIISet hv116 hi116 cut w hc ha)
  have hsz := Lib.setCells_size cut.data.toList
  have hs1' := Lib.setCells_one cut.data.toList
  have hsc : (storeCells ⟨w.heap.size + 1, 0, none⟩ (Lib.setCells cut.data.toList).toList 0).run Tryd.prog ((w.alloc (.cells (Lib.setCells cut.data.toList) 61)).alloc (.cells (Array.replicate 256 (.bool false)) 61)) = .ok () ((w.alloc (.cells (Lib.setCells cut.data.toList) 61)).alloc (.cells (Lib.setCells cut.data.toList) 61)) := by
    have := run_storeCells_new (P := Tryd.prog) (w.alloc (.cells (Lib.setCells cut.data.toList) 61)) 61 (Array.replicate 256 (.bool false)) (Lib.setCells cut.data.toList) (by rw [hsz]; exact hi116) (by rw [hsz, Array.size_replicate]) hs1'
    simpa using this
  have BA : Below w.heap.size w ((w.alloc (.cells (Lib.setCells cut.data.toList) 61)).alloc (.cells (Lib.setCells cut.data.toList) 61)) := ((Below.refl _ w).alloc (Nat.le_refl _) _).alloc (by simp) _
  have HS1 := Lib.hid hs1'
  clear hs1'
  have HCA : Hid (∀ x : UInt8, ((w.alloc (.cells (Lib.setCells cut.data.toList) 61)).alloc (.cells (Lib.setCells cut.data.toList) 61)).cell? ⟨w.heap.size + 1, x.toNat, none⟩ = some (.bool (cut.data.toList.contains x))) := Lib.hid (fun x => by
    rw [World.cell?_alloc_at _ _ _ _ (by simp), Lib.setCells_at])
  have HA := Lib.hid (ascii_mem ha)
  clear ha
  go_enter Tryd.func65, Tryd.ntmps65
  go_wp2_with (first
    | (go_at_call 107; refine (HU.out _).mono ?_; rintro e w' ⟨rfl, hw⟩; rw [hw])
    | (go_at_call 69; refine hM.out.mono ?_; rintro e w' ⟨rfl, hw⟩; rw [hw]))
  clear hsc
  obtain ⟨W1, hW1⟩ : ∃ W1, ((w.alloc (.cells (Lib.setCells cut.data.toList) 61)).alloc (.cells (Lib.setCells cut.data.toList) 61)) = W1 := ⟨_, rfl⟩
  rw [hW1] at BA HCA ⊢
  clear hW1 hM
  go_loopw [9, 10, 62] (fun _ _ v wr => ∃ i : Nat, v = .int .i64 (i : Int) ∧ i ≤ s.size ∧ (∀ k, k < i → cut.data.toList.contains (s.data.toList.getD k 0) = false) ∧ wr = W1) (fun _ _ v _ => s.size - (RowKit.intOf v).toNat)
  case atStart => exact ⟨0, rfl, Nat.zero_le _, fun k h => absurd h (Nat.not_lt_zero _), by first | rfl | trivial⟩
  case round =>
    obtain ⟨i, rfl, hil, hall, rfl⟩ := hrel
    have HALL := Lib.hid hall
    clear hall
    by_cases hlt : i < s.size
    · have hltz : (i : Int) < (s.size : Int) := by omega
      obtain ⟨x, hx⟩ : ∃ x, s[i]'hlt = x := ⟨_, rfl⟩
      have hcell : wr.cell? ⟨b1, o1 + i, none⟩ = some (.int .u8 (x.toNat : Int)) := by rw [← hx]; exact (HR.out.later BA) i hlt
      have hgd : s.data.toList.getD i 0 = x := by rw [List.getD_eq_getElem?_getD, data_getElem? s i hlt, hx]; rfl
      have hcx := HCA.out x
      cases hin : cut.data.toList.contains x with
      | true =>
        rw [hin] at hcx
        have HP : Hid (FirstIs (pOf cut) s.data.toList (i : Int)) := Lib.hid (firstOfSet HA.out (.inr ⟨i, rfl, by omega, by rw [hgd]; exact hin, HALL.out⟩))
        clear hgd hin
        go_wp2_with (go_at_call 108; refine (bytes_asciiSet_contains _ x _ _ hcx).mono ?_; rintro e w' ⟨rfl, hw⟩; rw [hw])
        go_ret
        exact IaPost.ret HP.out BA
      | false =>
        rw [hin] at hcx
        have HN := Lib.hid hin
        have HG := Lib.hid hgd
        clear hin hgd
        go_wp2_with (go_at_call 108; refine (bytes_asciiSet_contains _ x _ _ hcx).mono ?_; rintro e w' ⟨rfl, hw⟩; rw [hw])
        go_roundw
        case rel => exact ⟨i + 1, by go_num, by omega, fun k h => by
          by_cases e : k = i
          · subst e; rw [HG.out]; exact HN.out
          · exact HALL.out k (by omega), by first | rfl | trivial⟩
        case measure => simp [RowKit.intOf]; omega
    · have hltz : ¬ (i : Int) < (s.size : Int) := by omega
      have HP : Hid (FirstIs (pOf cut) s.data.toList (-1)) := Lib.hid (firstOfSet HA.out (.inl ⟨rfl, fun k hk => HALL.out k (by omega)⟩))
      clear hlt
      go_wp2_with fail
      go_ret
      exact IaPost.ret HP.out BA
set_option maxHeartbeats 4000000 in
set_option maxRecDepth 1000000 in
theorem gIa_low (b1 o1 c1 : Nat) (s cut : ByteArray) (w : World) (hr : Row w b1 o1 s) (hcap : s.size ≤ c1) (hm : c1 ≤ maxLen) (hs : s.size ≤ 2147483647) (hc : cut.size < 4294967281) (hT : Utf8Tabs 2 3 w) (h3 : 0 < cut.size) (hs1 : s.size ≠ 1) (hn1 : cut.size ≠ 1) (h8 : ¬ 8 < s.size) :
    Calls Tryd.prog 65 #[.slice (some ⟨b1, o1, none⟩) s.size c1, .string cut] w (IaPost w s cut) := by
  have HT := Lib.hid hT
  have HR := Lib.hid hr
  have hv116 := gbZeroSet
  have hi116 := gbInfoSet
  have hsl : s.data.toList.length = s.size := (Lib.size_eq s).symm
  have mixed : Tryd.prog.follows Departure.mixedOrders = true := by kernel_rfl
  unfold maxLen at hm
  clear hT hr
  have hemp : cut.toList.isEmpty = false := by
    rw [Lib.toList_data]
    cases h : cut.data.toList with
    | nil => have := Lib.size_eq cut; rw [h, List.length_nil] at this; omega
    | cons _ _ => rfl
  have hne1 : ((s.size : Int) == 1) = false := beq_eq_false_iff_ne.2 (by omega)
  have hnc1 : ((cut.size : Int) == 1) = false := beq_eq_false_iff_ne.2 (by omega)
  have HU := Lib.hid (fun (W : World) => gbShould s.size W)
  rw [decide_eq_false h8] at HU
  go_enter Tryd.func65, Tryd.ntmps65
  go_wp2_with (first
    | (go_at_call 107; refine (HU.out _).mono ?_; rintro e w' ⟨rfl, hw⟩; rw [hw]))
  go_loopw [11, 12, 13, 15] (fun _ v _ _ wr => IaRel w cut s v wr) (fun _ v _ _ _ => s.size - (RowKit.intOf v).toNat)
  case atStart => exact ⟨0, rfl, Nat.zero_le _, St.zero _, fun k _ h => absurd h (Nat.not_lt_zero _), (Below.refl _ _)⟩
  case round =>
    obtain ⟨i, rfl, hil, hst, hall, B⟩ := hrel
    have HALL := Lib.hid hall
    have HST := Lib.hid hst
    clear hall hst
    by_cases hlt : i < s.size
    · have hltz : (i : Int) < (s.size : Int) := by omega
      obtain ⟨x, hx⟩ : ∃ x, s[i]'hlt = x := ⟨_, rfl⟩
      have hcell : wr.cell? ⟨b1, o1 + i, none⟩ = some (.int .u8 (x.toNat : Int)) := by rw [← hx]; exact (HR.out.later B) i hlt
      have hgd : s.data.toList.getD i 0 = x := by rw [List.getD_eq_getElem?_getD, data_getElem? s i hlt, hx]; rfl
      have hw32 : wrap32 (x.toNat : Int) = (x.toNat : Int) := by have := x.toNat_lt; unfold wrap32; omega
      have hil2 : i < s.data.toList.length := by omega
      have hwd := wd_le s.data.toList i hil2
      by_cases hb : x.toNat < 128
      · have hdl := decL_at s.data.toList i
        rw [hgd, decodeN_ascii _ _ _ _ _ hb] at hdl
        have hrn : rn s.data.toList i = x.toNat := by unfold rn; rw [hdl]
        have hw1 : wd s.data.toList i = 1 := by unfold wd; rw [hdl]
        have HRN := Lib.hid hrn
        obtain ⟨W0, hW0⟩ : ∃ W0 : Nat, W0 = 1 := ⟨1, rfl⟩
        have HWD : Hid (wd s.data.toList i = W0) := Lib.hid (by rw [hW0]; exact hw1)
        have HW0 := Lib.hid hW0
        have HIB := Lib.hid (ibStr cut x hb hc)
        have g1 : (x.toNat : Int) < 128 := by omega
        clear hdl hgd hrn hw1 hwd hb hW0
        cases hp : pOf cut x.toNat with
        | true =>
          have g2 : (0 : Int) ≤ irOf cut (x.toNat : Int) := of_decide_eq_true hp
          have HP : Hid (FirstIs (pOf cut) s.data.toList (i : Int)) := Lib.hid (.inr ⟨i, rfl, HST.out, hil2, by rw [HRN.out]; exact hp, HALL.out⟩)
          clear hp
          generalize irOf cut (x.toNat : Int) = V at g2 HIB
          go_wp2_with (go_at_call 105; refine (HIB.out _).mono ?_; rintro e w2 ⟨rfl, hw⟩; rw [hw])
          go_ret
          exact IaPost.ret HP.out B
        | false =>
          have g2 : irOf cut (x.toNat : Int) < 0 := by have h : ¬ (0 ≤ irOf cut (x.toNat : Int)) := of_decide_eq_false hp; omega
          have HPF := Lib.hid hp
          clear hp
          generalize irOf cut (x.toNat : Int) = V at g2 HIB
          go_wp2_with (go_at_call 105; refine (HIB.out _).mono ?_; rintro e w2 ⟨rfl, hw⟩; rw [hw])
          have hW0 := HW0.out
          subst hW0
          go_roundw
          case rel => exact ⟨i + 1, by go_num, by omega, by have := HST.out.next (show i < s.data.toList.length by omega); rw [HWD.out] at this; exact this, fun k hk h => by
            by_cases e1 : k < i
            · exact HALL.out k hk e1
            · by_cases e2 : k = i
              · subst e2; rw [HRN.out]; exact HPF.out
              · have := HST.out.chain hk (by omega); rw [HWD.out] at this; omega, B⟩
          case measure => simp [RowKit.intOf]; omega
      · have hwide : rn s.data.toList i ≠ 65533 → 128 ≤ rn s.data.toList i ∧ rn s.data.toList i ≤ 1114111 ∧ (rn s.data.toList i < 55296 ∨ 57343 < rn s.data.toList i) ∧ wd s.data.toList i = (Utf8.encode (rn s.data.toList i : Int)).size := wide_enc hil2 (by rw [hgd]; omega)
        have hsc1 := rn_scal s.data.toList i
        obtain ⟨R, hR⟩ : ∃ R, rn s.data.toList i = R := ⟨_, rfl⟩
        obtain ⟨W0, hWd⟩ : ∃ W0, wd s.data.toList i = W0 := ⟨_, rfl⟩
        have HD : Hid (Calls Tryd.prog 94 #[.slice (some ⟨b1, o1 + i, none⟩) (s.size - i) (c1 - i)] wr fun e w' => e = .returned (.tuple #[.int .i32 (R : Int), .int .i64 (W0 : Int)]) ∧ Below wr.heap.size wr w') := Lib.hid (by
          have h := decRow b1 (o1 + i) (c1 - i) (s.extract i s.size) wr (Row.sub (HR.out.later B) i s.size (Nat.le_refl _)) (Utf8Tabs_below HT.out B)
          rw [decode_sub s i hlt, dec_list, show (s.extract i s.size).size = s.size - i by rw [ByteArray.size_extract]; omega] at h
          rw [← hR, ← hWd]
          exact h)
        rw [hR, hWd] at hwide
        rw [hWd] at hwd
        rw [hR] at hsc1
        have HRN := Lib.hid hR
        have HWD := Lib.hid hWd
        have HPR := Lib.hid (pOf_has cut R hsc1)
        have g1 : ¬ (x.toNat : Int) < 128 := by omega
        have hci : ¬ (c1 = i) := by omega
        have d1 : (i : Int) ≤ (s.size : Int) := by omega
        have gz : ¬ ((W0 : Int) ≤ 0) := by omega
        clear hgd hR hWd hsc1
        by_cases hne : R = 65533
        · have g3 : ((R : Int) == 65533) = true := beq_iff_eq.2 (by omega)
          clear hwide hne
          go_wp2_with (go_at_call 94; refine HD.out.mono ?_; rintro e w2 ⟨rfl, hB2⟩; have B2 : Below w.heap.size w w2 := B.trans (hB2.mono B.size))
          go_loopg [15] cut.size (fun g _ wx => ∃ pos : Nat, wx = w2.iter cut pos ∧ pos ≤ cut.size ∧ cut.size ≤ pos + g ∧ Hid ((tailStarts cut pos).any (isR cut R) = hasR cut R))
          case atStart => exact ⟨0, rfl, Nat.zero_le _, by omega, Lib.hid (by rw [tailStarts_zero]; rfl)⟩
          case round =>
            obtain ⟨pos, rfl, hp, hg, H⟩ := hrel
            have BI : Below w.heap.size w (w2.iter cut pos) := B2.alloc B2.size _
            by_cases hlt2 : pos < cut.size
            · have hnx := fun ty => run_next_any (P := Tryd.prog) w2 cut pos ty hlt2
              have hw2 := decode_w_le cut pos hlt2
              have hw1 := decode_width_pos cut pos hlt2
              have HSS := H.out
              rw [tailStarts_step cut pos hlt2, List.any_cons] at HSS
              obtain ⟨g', rfl⟩ : ∃ g', gk = g' + 1 := ⟨gk - 1, by omega⟩
              by_cases hrr : (Utf8.decode cut pos).1 = R
              · have hD : (((Utf8.decode cut pos).1 : Int) == ((R : Nat) : Int)) = true := beq_iff_eq.2 (by omega)
                have hD2 : (((R : Nat) : Int) == ((Utf8.decode cut pos).1 : Int)) = true := beq_iff_eq.2 (by omega)
                have HQ : Hid (hasR cut R = true) := Lib.hid (by rw [← HSS]; unfold isR; rw [hrr]; simp)
                clear HSS hrr
                have HP : Hid (FirstIs (pOf cut) s.data.toList (i : Int)) := Lib.hid (.inr ⟨i, rfl, HST.out, by omega, by rw [HRN.out]; exact ((HPR.out).trans HQ.out), HALL.out⟩)
                go_wp2_with fail
                go_ret
                exact IaPost.ret HP.out (B2.alloc B2.size _)
              · have hD : (((Utf8.decode cut pos).1 : Int) == ((R : Nat) : Int)) = false := beq_eq_false_iff_ne.2 (by omega)
                have hD2 : (((R : Nat) : Int) == ((Utf8.decode cut pos).1 : Int)) = false := beq_eq_false_iff_ne.2 (by omega)
                have HN2 : Hid ((tailStarts cut (pos + (Utf8.decode cut pos).2)).any (isR cut R) = hasR cut R) := Lib.hid (by rw [← HSS]; unfold isR; rw [beq_eq_false_iff_ne.2 hrr, Bool.false_or])
                clear HSS hrr
                go_wp2_with fail
                go_roundg g'
                case measure => omega
                case rel => exact ⟨_, rfl, hw2, by omega, HN2⟩
            · have hnx := fun ty => run_next_end (P := Tryd.prog) w2 cut pos ty hlt2
              have HQ : Hid (hasR cut R = false) := Lib.hid (by rw [← H.out, tailStarts_end cut pos hlt2]; rfl)
              go_wp2_with fail
              go_roundw
              case rel => exact ⟨i + W0, by go_num, by omega, by have := HST.out.next (show i < s.data.toList.length by omega); rw [HWD.out] at this; exact this, fun k hk h => by
                by_cases e1 : k < i
                · exact HALL.out k hk e1
                · by_cases e2 : k = i
                  · subst e2; rw [HRN.out]; exact (HPR.out.trans HQ.out)
                  · have := HST.out.chain hk (by omega); rw [HWD.out] at this; omega, BI⟩
              case measure => simp [RowKit.intOf]; omega
        · have g3 : ((R : Int) == 65533) = false := beq_eq_false_iff_ne.2 (by omega)
          obtain ⟨q1, q2, q3, q4⟩ := hwide hne
          by_cases hcw : cut.size = W0
          · have heq := eq_enc q1 q2 q3 hne (hcw.trans q4)
            have g4 : ((cut.size : Int) == (W0 : Int)) = true := beq_iff_eq.2 (by omega)
            clear hwide q4 q3 hne hcw
            cases hp : pOf cut R with
            | true =>
              rw [hp] at heq
              have HPT := Lib.hid hp
              clear hp
              have HP : Hid (FirstIs (pOf cut) s.data.toList (i : Int)) := Lib.hid (.inr ⟨i, rfl, HST.out, by omega, by rw [HRN.out]; exact HPT.out, HALL.out⟩)
              go_wp2_with (go_at_call 94; refine HD.out.mono ?_; rintro e w2 ⟨rfl, hB2⟩; have B2 : Below w.heap.size w w2 := B.trans (hB2.mono B.size))
              go_ret
              exact IaPost.ret HP.out B2
            | false =>
              rw [hp] at heq
              have HPF := Lib.hid hp
              clear hp
              go_wp2_with (go_at_call 94; refine HD.out.mono ?_; rintro e w2 ⟨rfl, hB2⟩; have B2 : Below w.heap.size w w2 := B.trans (hB2.mono B.size))
              go_roundw
              case rel => exact ⟨i + W0, by go_num, by omega, by have := HST.out.next (show i < s.data.toList.length by omega); rw [HWD.out] at this; exact this, fun k hk h => by
                by_cases e1 : k < i
                · exact HALL.out k hk e1
                · by_cases e2 : k = i
                  · subst e2; rw [HRN.out]; exact HPF.out
                  · have := HST.out.chain hk (by omega); rw [HWD.out] at this; omega, B2⟩
              case measure => simp [RowKit.intOf]; omega
          · have g4 : ((cut.size : Int) == (W0 : Int)) = false := beq_eq_false_iff_ne.2 (by omega)
            clear hwide q4 q3 hne hcw
            go_wp2_with (go_at_call 94; refine HD.out.mono ?_; rintro e w2 ⟨rfl, hB2⟩; have B2 : Below w.heap.size w w2 := B.trans (hB2.mono B.size))
            go_loopg [15] cut.size (fun g _ wx => ∃ pos : Nat, wx = w2.iter cut pos ∧ pos ≤ cut.size ∧ cut.size ≤ pos + g ∧ Hid ((tailStarts cut pos).any (isR cut R) = hasR cut R))
            case atStart => exact ⟨0, rfl, Nat.zero_le _, by omega, Lib.hid (by rw [tailStarts_zero]; rfl)⟩
            case round =>
              obtain ⟨pos, rfl, hp, hg, H⟩ := hrel
              have BI : Below w.heap.size w (w2.iter cut pos) := B2.alloc B2.size _
              by_cases hlt2 : pos < cut.size
              · have hnx := fun ty => run_next_any (P := Tryd.prog) w2 cut pos ty hlt2
                have hw2 := decode_w_le cut pos hlt2
                have hw1 := decode_width_pos cut pos hlt2
                have HSS := H.out
                rw [tailStarts_step cut pos hlt2, List.any_cons] at HSS
                obtain ⟨g', rfl⟩ : ∃ g', gk = g' + 1 := ⟨gk - 1, by omega⟩
                by_cases hrr : (Utf8.decode cut pos).1 = R
                · have hD : (((Utf8.decode cut pos).1 : Int) == ((R : Nat) : Int)) = true := beq_iff_eq.2 (by omega)
                  have hD2 : (((R : Nat) : Int) == ((Utf8.decode cut pos).1 : Int)) = true := beq_iff_eq.2 (by omega)
                  have HQ : Hid (hasR cut R = true) := Lib.hid (by rw [← HSS]; unfold isR; rw [hrr]; simp)
                  clear HSS hrr
                  have HP : Hid (FirstIs (pOf cut) s.data.toList (i : Int)) := Lib.hid (.inr ⟨i, rfl, HST.out, by omega, by rw [HRN.out]; exact ((HPR.out).trans HQ.out), HALL.out⟩)
                  go_wp2_with fail
                  go_ret
                  exact IaPost.ret HP.out (B2.alloc B2.size _)
                · have hD : (((Utf8.decode cut pos).1 : Int) == ((R : Nat) : Int)) = false := beq_eq_false_iff_ne.2 (by omega)
                  have hD2 : (((R : Nat) : Int) == ((Utf8.decode cut pos).1 : Int)) = false := beq_eq_false_iff_ne.2 (by omega)
                  have HN2 : Hid ((tailStarts cut (pos + (Utf8.decode cut pos).2)).any (isR cut R) = hasR cut R) := Lib.hid (by rw [← HSS]; unfold isR; rw [beq_eq_false_iff_ne.2 hrr, Bool.false_or])
                  clear HSS hrr
                  go_wp2_with fail
                  go_roundg g'
                  case measure => omega
                  case rel => exact ⟨_, rfl, hw2, by omega, HN2⟩
              · have hnx := fun ty => run_next_end (P := Tryd.prog) w2 cut pos ty hlt2
                have HQ : Hid (hasR cut R = false) := Lib.hid (by rw [← H.out, tailStarts_end cut pos hlt2]; rfl)
                go_wp2_with fail
                go_roundw
                case rel => exact ⟨i + W0, by go_num, by omega, by have := HST.out.next (show i < s.data.toList.length by omega); rw [HWD.out] at this; exact this, fun k hk h => by
                  by_cases e1 : k < i
                  · exact HALL.out k hk e1
                  · by_cases e2 : k = i
                    · subst e2; rw [HRN.out]; exact (HPR.out.trans HQ.out)
                    · have := HST.out.chain hk (by omega); rw [HWD.out] at this; omega, BI⟩
                case measure => simp [RowKit.intOf]; omega
    · have hltz : ¬ (i : Int) < (s.size : Int) := by omega
      have HP : Hid (FirstIs (pOf cut) s.data.toList (-1)) := Lib.hid (.inl ⟨rfl, fun k hk hkl => HALL.out k hk (by omega)⟩)
      clear hlt
      go_wp2_with fail
      go_ret
      exact IaPost.ret HP.out B
set_option maxHeartbeats 4000000 in
set_option maxRecDepth 1000000 in
theorem gIa_high (b1 o1 c1 : Nat) (s cut : ByteArray) (w : World) (hr : Row w b1 o1 s) (hcap : s.size ≤ c1) (hm : c1 ≤ maxLen) (hs : s.size ≤ 2147483647) (hc : cut.size < 4294967281) (hT : Utf8Tabs 2 3 w) (h3 : 0 < cut.size) (hs1 : s.size ≠ 1) (hn1 : cut.size ≠ 1) (h8 : 8 < s.size) (n0 : Nat) (hf : FirstHigh cut n0) :
    Calls Tryd.prog 65 #[.slice (some ⟨b1, o1, none⟩) s.size c1, .string cut] w (IaPost w s cut) := by
  have HT := Lib.hid hT
  have HR := Lib.hid hr
  have hv116 := gbZeroSet
  have hi116 := gbInfoSet
  have hsl : s.data.toList.length = s.size := (Lib.size_eq s).symm
  have mixed : Tryd.prog.follows Departure.mixedOrders = true := by kernel_rfl
  unfold maxLen at hm
  clear hT hr
  have hemp : cut.toList.isEmpty = false := by
    rw [Lib.toList_data]
    cases h : cut.data.toList with
    | nil => have := Lib.size_eq cut; rw [h, List.length_nil] at this; omega
    | cons _ _ => rfl
  have hne1 : ((s.size : Int) == 1) = false := beq_eq_false_iff_ne.2 (by omega)
  have hnc1 : ((cut.size : Int) == 1) = false := beq_eq_false_iff_ne.2 (by omega)
  have HU := Lib.hid (fun (W : World) => gbShould s.size W)
  rw [decide_eq_true h8] at HU
  have hM := Lib.hid (gbMakeSet_no cut n0 w hc hf)
  obtain ⟨C, hC⟩ : ∃ C, Lib.setCells (cut.data.toList.take n0) = C := ⟨_, rfl⟩
  have hsz := Lib.setCells_size (cut.data.toList.take n0)
  have hs1' := Lib.setCells_one (cut.data.toList.take n0)
  rw [hC] at hM hsz hs1'
  clear hC hf
  have hsc : (storeCells ⟨w.heap.size + 1, 0, none⟩ C.toList 0).run Tryd.prog ((w.alloc (.cells C 61)).alloc (.cells (Array.replicate 256 (.bool false)) 61)) = .ok () ((w.alloc (.cells C 61)).alloc (.cells C 61)) := by
    have := run_storeCells_new (P := Tryd.prog) (w.alloc (.cells C 61)) 61 (Array.replicate 256 (.bool false)) C (by rw [hsz]; exact hi116) (by rw [hsz, Array.size_replicate]) hs1'
    simpa using this
  have BA : Below w.heap.size w ((w.alloc (.cells C 61)).alloc (.cells C 61)) := ((Below.refl _ w).alloc (Nat.le_refl _) _).alloc (by simp) _
  have HS1 := Lib.hid hs1'
  clear hs1'
  go_enter Tryd.func65, Tryd.ntmps65
  go_wp2_with (first
    | (go_at_call 107; refine (HU.out _).mono ?_; rintro e w' ⟨rfl, hw⟩; rw [hw])
    | (go_at_call 69; refine hM.out.mono ?_; rintro e w' ⟨rfl, hw⟩; rw [hw]))
  clear hsc
  obtain ⟨W1, hW1⟩ : ∃ W1, ((w.alloc (.cells C 61)).alloc (.cells C 61)) = W1 := ⟨_, rfl⟩
  rw [hW1] at BA ⊢
  clear hW1 hM
  go_loopw [11, 12, 13, 15] (fun _ v _ _ wr => IaRel w cut s v wr) (fun _ v _ _ _ => s.size - (RowKit.intOf v).toNat)
  case atStart => exact ⟨0, rfl, Nat.zero_le _, St.zero _, fun k _ h => absurd h (Nat.not_lt_zero _), BA⟩
  case round =>
    obtain ⟨i, rfl, hil, hst, hall, B⟩ := hrel
    have HALL := Lib.hid hall
    have HST := Lib.hid hst
    clear hall hst
    by_cases hlt : i < s.size
    · have hltz : (i : Int) < (s.size : Int) := by omega
      obtain ⟨x, hx⟩ : ∃ x, s[i]'hlt = x := ⟨_, rfl⟩
      have hcell : wr.cell? ⟨b1, o1 + i, none⟩ = some (.int .u8 (x.toNat : Int)) := by rw [← hx]; exact (HR.out.later B) i hlt
      have hgd : s.data.toList.getD i 0 = x := by rw [List.getD_eq_getElem?_getD, data_getElem? s i hlt, hx]; rfl
      have hw32 : wrap32 (x.toNat : Int) = (x.toNat : Int) := by have := x.toNat_lt; unfold wrap32; omega
      have hil2 : i < s.data.toList.length := by omega
      have hwd := wd_le s.data.toList i hil2
      by_cases hb : x.toNat < 128
      · have hdl := decL_at s.data.toList i
        rw [hgd, decodeN_ascii _ _ _ _ _ hb] at hdl
        have hrn : rn s.data.toList i = x.toNat := by unfold rn; rw [hdl]
        have hw1 : wd s.data.toList i = 1 := by unfold wd; rw [hdl]
        have HRN := Lib.hid hrn
        obtain ⟨W0, hW0⟩ : ∃ W0 : Nat, W0 = 1 := ⟨1, rfl⟩
        have HWD : Hid (wd s.data.toList i = W0) := Lib.hid (by rw [hW0]; exact hw1)
        have HW0 := Lib.hid hW0
        have HIB := Lib.hid (ibStr cut x hb hc)
        have g1 : (x.toNat : Int) < 128 := by omega
        clear hdl hgd hrn hw1 hwd hb hW0
        cases hp : pOf cut x.toNat with
        | true =>
          have g2 : (0 : Int) ≤ irOf cut (x.toNat : Int) := of_decide_eq_true hp
          have HP : Hid (FirstIs (pOf cut) s.data.toList (i : Int)) := Lib.hid (.inr ⟨i, rfl, HST.out, hil2, by rw [HRN.out]; exact hp, HALL.out⟩)
          clear hp
          generalize irOf cut (x.toNat : Int) = V at g2 HIB
          go_wp2_with (go_at_call 105; refine (HIB.out _).mono ?_; rintro e w2 ⟨rfl, hw⟩; rw [hw])
          go_ret
          exact IaPost.ret HP.out B
        | false =>
          have g2 : irOf cut (x.toNat : Int) < 0 := by have h : ¬ (0 ≤ irOf cut (x.toNat : Int)) := of_decide_eq_false hp; omega
          have HPF := Lib.hid hp
          clear hp
          generalize irOf cut (x.toNat : Int) = V at g2 HIB
          go_wp2_with (go_at_call 105; refine (HIB.out _).mono ?_; rintro e w2 ⟨rfl, hw⟩; rw [hw])
          have hW0 := HW0.out
          subst hW0
          go_roundw
          case rel => exact ⟨i + 1, by go_num, by omega, by have := HST.out.next (show i < s.data.toList.length by omega); rw [HWD.out] at this; exact this, fun k hk h => by
            by_cases e1 : k < i
            · exact HALL.out k hk e1
            · by_cases e2 : k = i
              · subst e2; rw [HRN.out]; exact HPF.out
              · have := HST.out.chain hk (by omega); rw [HWD.out] at this; omega, B⟩
          case measure => simp [RowKit.intOf]; omega
      · have hwide : rn s.data.toList i ≠ 65533 → 128 ≤ rn s.data.toList i ∧ rn s.data.toList i ≤ 1114111 ∧ (rn s.data.toList i < 55296 ∨ 57343 < rn s.data.toList i) ∧ wd s.data.toList i = (Utf8.encode (rn s.data.toList i : Int)).size := wide_enc hil2 (by rw [hgd]; omega)
        have hsc1 := rn_scal s.data.toList i
        obtain ⟨R, hR⟩ : ∃ R, rn s.data.toList i = R := ⟨_, rfl⟩
        obtain ⟨W0, hWd⟩ : ∃ W0, wd s.data.toList i = W0 := ⟨_, rfl⟩
        have HD : Hid (Calls Tryd.prog 94 #[.slice (some ⟨b1, o1 + i, none⟩) (s.size - i) (c1 - i)] wr fun e w' => e = .returned (.tuple #[.int .i32 (R : Int), .int .i64 (W0 : Int)]) ∧ Below wr.heap.size wr w') := Lib.hid (by
          have h := decRow b1 (o1 + i) (c1 - i) (s.extract i s.size) wr (Row.sub (HR.out.later B) i s.size (Nat.le_refl _)) (Utf8Tabs_below HT.out B)
          rw [decode_sub s i hlt, dec_list, show (s.extract i s.size).size = s.size - i by rw [ByteArray.size_extract]; omega] at h
          rw [← hR, ← hWd]
          exact h)
        rw [hR, hWd] at hwide
        rw [hWd] at hwd
        rw [hR] at hsc1
        have HRN := Lib.hid hR
        have HWD := Lib.hid hWd
        have HPR := Lib.hid (pOf_has cut R hsc1)
        have g1 : ¬ (x.toNat : Int) < 128 := by omega
        have hci : ¬ (c1 = i) := by omega
        have d1 : (i : Int) ≤ (s.size : Int) := by omega
        have gz : ¬ ((W0 : Int) ≤ 0) := by omega
        clear hgd hR hWd hsc1
        by_cases hne : R = 65533
        · have g3 : ((R : Int) == 65533) = true := beq_iff_eq.2 (by omega)
          clear hwide hne
          go_wp2_with (go_at_call 94; refine HD.out.mono ?_; rintro e w2 ⟨rfl, hB2⟩; have B2 : Below w.heap.size w w2 := B.trans (hB2.mono B.size))
          go_loopg [15] cut.size (fun g _ wx => ∃ pos : Nat, wx = w2.iter cut pos ∧ pos ≤ cut.size ∧ cut.size ≤ pos + g ∧ Hid ((tailStarts cut pos).any (isR cut R) = hasR cut R))
          case atStart => exact ⟨0, rfl, Nat.zero_le _, by omega, Lib.hid (by rw [tailStarts_zero]; rfl)⟩
          case round =>
            obtain ⟨pos, rfl, hp, hg, H⟩ := hrel
            have BI : Below w.heap.size w (w2.iter cut pos) := B2.alloc B2.size _
            by_cases hlt2 : pos < cut.size
            · have hnx := fun ty => run_next_any (P := Tryd.prog) w2 cut pos ty hlt2
              have hw2 := decode_w_le cut pos hlt2
              have hw1 := decode_width_pos cut pos hlt2
              have HSS := H.out
              rw [tailStarts_step cut pos hlt2, List.any_cons] at HSS
              obtain ⟨g', rfl⟩ : ∃ g', gk = g' + 1 := ⟨gk - 1, by omega⟩
              by_cases hrr : (Utf8.decode cut pos).1 = R
              · have hD : (((Utf8.decode cut pos).1 : Int) == ((R : Nat) : Int)) = true := beq_iff_eq.2 (by omega)
                have hD2 : (((R : Nat) : Int) == ((Utf8.decode cut pos).1 : Int)) = true := beq_iff_eq.2 (by omega)
                have HQ : Hid (hasR cut R = true) := Lib.hid (by rw [← HSS]; unfold isR; rw [hrr]; simp)
                clear HSS hrr
                have HP : Hid (FirstIs (pOf cut) s.data.toList (i : Int)) := Lib.hid (.inr ⟨i, rfl, HST.out, by omega, by rw [HRN.out]; exact ((HPR.out).trans HQ.out), HALL.out⟩)
                go_wp2_with fail
                go_ret
                exact IaPost.ret HP.out (B2.alloc B2.size _)
              · have hD : (((Utf8.decode cut pos).1 : Int) == ((R : Nat) : Int)) = false := beq_eq_false_iff_ne.2 (by omega)
                have hD2 : (((R : Nat) : Int) == ((Utf8.decode cut pos).1 : Int)) = false := beq_eq_false_iff_ne.2 (by omega)
                have HN2 : Hid ((tailStarts cut (pos + (Utf8.decode cut pos).2)).any (isR cut R) = hasR cut R) := Lib.hid (by rw [← HSS]; unfold isR; rw [beq_eq_false_iff_ne.2 hrr, Bool.false_or])
                clear HSS hrr
                go_wp2_with fail
                go_roundg g'
                case measure => omega
                case rel => exact ⟨_, rfl, hw2, by omega, HN2⟩
            · have hnx := fun ty => run_next_end (P := Tryd.prog) w2 cut pos ty hlt2
              have HQ : Hid (hasR cut R = false) := Lib.hid (by rw [← H.out, tailStarts_end cut pos hlt2]; rfl)
              go_wp2_with fail
              go_roundw
              case rel => exact ⟨i + W0, by go_num, by omega, by have := HST.out.next (show i < s.data.toList.length by omega); rw [HWD.out] at this; exact this, fun k hk h => by
                by_cases e1 : k < i
                · exact HALL.out k hk e1
                · by_cases e2 : k = i
                  · subst e2; rw [HRN.out]; exact (HPR.out.trans HQ.out)
                  · have := HST.out.chain hk (by omega); rw [HWD.out] at this; omega, BI⟩
              case measure => simp [RowKit.intOf]; omega
        · have g3 : ((R : Int) == 65533) = false := beq_eq_false_iff_ne.2 (by omega)
          obtain ⟨q1, q2, q3, q4⟩ := hwide hne
          by_cases hcw : cut.size = W0
          · have heq := eq_enc q1 q2 q3 hne (hcw.trans q4)
            have g4 : ((cut.size : Int) == (W0 : Int)) = true := beq_iff_eq.2 (by omega)
            clear hwide q4 q3 hne hcw
            cases hp : pOf cut R with
            | true =>
              rw [hp] at heq
              have HPT := Lib.hid hp
              clear hp
              have HP : Hid (FirstIs (pOf cut) s.data.toList (i : Int)) := Lib.hid (.inr ⟨i, rfl, HST.out, by omega, by rw [HRN.out]; exact HPT.out, HALL.out⟩)
              go_wp2_with (go_at_call 94; refine HD.out.mono ?_; rintro e w2 ⟨rfl, hB2⟩; have B2 : Below w.heap.size w w2 := B.trans (hB2.mono B.size))
              go_ret
              exact IaPost.ret HP.out B2
            | false =>
              rw [hp] at heq
              have HPF := Lib.hid hp
              clear hp
              go_wp2_with (go_at_call 94; refine HD.out.mono ?_; rintro e w2 ⟨rfl, hB2⟩; have B2 : Below w.heap.size w w2 := B.trans (hB2.mono B.size))
              go_roundw
              case rel => exact ⟨i + W0, by go_num, by omega, by have := HST.out.next (show i < s.data.toList.length by omega); rw [HWD.out] at this; exact this, fun k hk h => by
                by_cases e1 : k < i
                · exact HALL.out k hk e1
                · by_cases e2 : k = i
                  · subst e2; rw [HRN.out]; exact HPF.out
                  · have := HST.out.chain hk (by omega); rw [HWD.out] at this; omega, B2⟩
              case measure => simp [RowKit.intOf]; omega
          · have g4 : ((cut.size : Int) == (W0 : Int)) = false := beq_eq_false_iff_ne.2 (by omega)
            clear hwide q4 q3 hne hcw
            go_wp2_with (go_at_call 94; refine HD.out.mono ?_; rintro e w2 ⟨rfl, hB2⟩; have B2 : Below w.heap.size w w2 := B.trans (hB2.mono B.size))
            go_loopg [15] cut.size (fun g _ wx => ∃ pos : Nat, wx = w2.iter cut pos ∧ pos ≤ cut.size ∧ cut.size ≤ pos + g ∧ Hid ((tailStarts cut pos).any (isR cut R) = hasR cut R))
            case atStart => exact ⟨0, rfl, Nat.zero_le _, by omega, Lib.hid (by rw [tailStarts_zero]; rfl)⟩
            case round =>
              obtain ⟨pos, rfl, hp, hg, H⟩ := hrel
              have BI : Below w.heap.size w (w2.iter cut pos) := B2.alloc B2.size _
              by_cases hlt2 : pos < cut.size
              · have hnx := fun ty => run_next_any (P := Tryd.prog) w2 cut pos ty hlt2
                have hw2 := decode_w_le cut pos hlt2
                have hw1 := decode_width_pos cut pos hlt2
                have HSS := H.out
                rw [tailStarts_step cut pos hlt2, List.any_cons] at HSS
                obtain ⟨g', rfl⟩ : ∃ g', gk = g' + 1 := ⟨gk - 1, by omega⟩
                by_cases hrr : (Utf8.decode cut pos).1 = R
                · have hD : (((Utf8.decode cut pos).1 : Int) == ((R : Nat) : Int)) = true := beq_iff_eq.2 (by omega)
                  have hD2 : (((R : Nat) : Int) == ((Utf8.decode cut pos).1 : Int)) = true := beq_iff_eq.2 (by omega)
                  have HQ : Hid (hasR cut R = true) := Lib.hid (by rw [← HSS]; unfold isR; rw [hrr]; simp)
                  clear HSS hrr
                  have HP : Hid (FirstIs (pOf cut) s.data.toList (i : Int)) := Lib.hid (.inr ⟨i, rfl, HST.out, by omega, by rw [HRN.out]; exact ((HPR.out).trans HQ.out), HALL.out⟩)
                  go_wp2_with fail
                  go_ret
                  exact IaPost.ret HP.out (B2.alloc B2.size _)
                · have hD : (((Utf8.decode cut pos).1 : Int) == ((R : Nat) : Int)) = false := beq_eq_false_iff_ne.2 (by omega)
                  have hD2 : (((R : Nat) : Int) == ((Utf8.decode cut pos).1 : Int)) = false := beq_eq_false_iff_ne.2 (by omega)
                  have HN2 : Hid ((tailStarts cut (pos + (Utf8.decode cut pos).2)).any (isR cut R) = hasR cut R) := Lib.hid (by rw [← HSS]; unfold isR; rw [beq_eq_false_iff_ne.2 hrr, Bool.false_or])
                  clear HSS hrr
                  go_wp2_with fail
                  go_roundg g'
                  case measure => omega
                  case rel => exact ⟨_, rfl, hw2, by omega, HN2⟩
              · have hnx := fun ty => run_next_end (P := Tryd.prog) w2 cut pos ty hlt2
                have HQ : Hid (hasR cut R = false) := Lib.hid (by rw [← H.out, tailStarts_end cut pos hlt2]; rfl)
                go_wp2_with fail
                go_roundw
                case rel => exact ⟨i + W0, by go_num, by omega, by have := HST.out.next (show i < s.data.toList.length by omega); rw [HWD.out] at this; exact this, fun k hk h => by
                  by_cases e1 : k < i
                  · exact HALL.out k hk e1
                  · by_cases e2 : k = i
                    · subst e2; rw [HRN.out]; exact (HPR.out.trans HQ.out)
                    · have := HST.out.chain hk (by omega); rw [HWD.out] at this; omega, BI⟩
                case measure => simp [RowKit.intOf]; omega
    · have hltz : ¬ (i : Int) < (s.size : Int) := by omega
      have HP : Hid (FirstIs (pOf cut) s.data.toList (-1)) := Lib.hid (.inl ⟨rfl, fun k hk hkl => HALL.out k hk (by omega)⟩)
      clear hlt
      go_wp2_with fail
      go_ret
      exact IaPost.ret HP.out B
set_option maxHeartbeats 4000000 in
set_option maxRecDepth 1000000 in
theorem gIa_c1 (b1 o1 c1 : Nat) (s cut : ByteArray) (w : World) (hr : Row w b1 o1 s) (hcap : s.size ≤ c1) (hm : c1 ≤ maxLen) (hs : s.size ≤ 2147483647) (hc : cut.size < 4294967281) (hT : Utf8Tabs 2 3 w) (h3 : 0 < cut.size) (hs1 : s.size ≠ 1) (hn1 : cut.size = 1) :
    Calls Tryd.prog 65 #[.slice (some ⟨b1, o1, none⟩) s.size c1, .string cut] w (IaPost w s cut) := by
  have HT := Lib.hid hT
  have HR := Lib.hid hr
  have hv116 := gbZeroSet
  have hi116 := gbInfoSet
  have hsl : s.data.toList.length = s.size := (Lib.size_eq s).symm
  have mixed : Tryd.prog.follows Departure.mixedOrders = true := by kernel_rfl
  unfold maxLen at hm
  clear hT hr
  have hemp : cut.toList.isEmpty = false := by
    rw [Lib.toList_data]
    cases h : cut.data.toList with
    | nil => have := Lib.size_eq cut; rw [h, List.length_nil] at this; omega
    | cons _ _ => rfl
  have hne1 : ((s.size : Int) == 1) = false := beq_eq_false_iff_ne.2 (by omega)
  have hnc1 : ((cut.size : Int) == 1) = true := beq_iff_eq.2 (by omega)
  obtain ⟨c, hx⟩ : ∃ c, cut[0]'h3 = c := ⟨_, rfl⟩
  have hl1 := list_one h3 hn1 hx
  have hw32 : wrap32 (c.toNat : Int) = (c.toNat : Int) := by have := c.toNat_lt; unfold wrap32; omega
  have HPC : Hid (∀ R, Scal R → (pOf cut R = true ↔ R = rcOf c)) := Lib.hid (fun R hR => pOf_one cut c hl1 R hR)
  have hcp2 : (0 : Int) < (cut.size : Int) := by omega
  by_cases hcb : c.toNat < 128
  · have HP : Hid (FirstIs (pOf cut) s.data.toList (Lib.indexByte s.data.toList c)) := Lib.hid (firstOfSet (by rw [hl1]; intro y hy; rw [List.mem_singleton] at hy; subst hy; exact hcb) (by rw [hl1]; exact index_has _ c))
    have HI := Lib.hid (gbIdxRuneA b1 o1 c1 s c w HR.out hs hcb)
    have g1 : ¬ ((128 : Int) ≤ (c.toNat : Int)) := by omega
    generalize Lib.indexByte s.data.toList c = V at *
    clear hl1 hcb hn1
    go_enter Tryd.func65, Tryd.ntmps65
    go_wp2_with (go_at_call 106; refine HI.out.mono ?_; rintro e w' ⟨rfl, hw⟩; rw [hw])
    go_ret
    exact IaPost.ret HP.out (Below.refl _ _)
  · have HI := Lib.hid (gbIdxRuneE b1 o1 c1 s w HR.out hcap (by unfold maxLen; omega) hs HT.out)
    have hrc : rcOf c = 65533 := if_neg hcb
    rw [hrc] at HPC
    have HCO : Hid (∀ v, FirstIs (fun R => R == 65533) s.data.toList v → FirstIs (pOf cut) s.data.toList v) := Lib.hid (fun v hv => hv.congr fun j => by
      have := HPC.out _ (rn_scal s.data.toList j)
      rw [Bool.eq_iff_iff, this, beq_iff_eq])
    have g1 : (128 : Int) ≤ (c.toNat : Int) := by omega
    clear hl1 hcb hn1 hrc
    go_enter Tryd.func65, Tryd.ntmps65
    go_wp2_with (go_at_call 106; refine HI.out.mono ?_; rintro e w' ⟨v, rfl, hv, hB⟩)
    go_ret
    exact IaPost.ret (HCO.out _ hv) hB
theorem gIndexAny (b1 o1 c1 : Nat) (s cut : ByteArray) (w : World) (hr : Row w b1 o1 s) (hcap : s.size ≤ c1) (hm : c1 ≤ maxLen) (hs : s.size ≤ 2147483647) (hc : cut.size < 4294967281) (hT : Utf8Tabs 2 3 w) :
    Calls Tryd.prog 65 #[.slice (some ⟨b1, o1, none⟩) s.size c1, .string cut] w (IaPost w s cut) := by
  rcases pos_or cut with h3 | h3
  · exact gIa_nil b1 o1 c1 s cut w hr hcap hm hs hc hT h3
  by_cases hs1 : s.size = 1
  · exact gIa_one b1 o1 c1 s cut w hr hcap hm hs hc hT h3 hs1
  by_cases hn1 : cut.size = 1
  · exact gIa_c1 b1 o1 c1 s cut w hr hcap hm hs hc hT h3 hs1 hn1
  by_cases h8 : 8 < s.size
  · rcases high_or cut with ha | ⟨n0, hf⟩
    · exact gIa_set b1 o1 c1 s cut w hr hcap hm hs hc hT h3 hs1 hn1 h8 ha
    · exact gIa_high b1 o1 c1 s cut w hr hcap hm hs hc hT h3 hs1 hn1 h8 n0 hf
  · exact gIa_low b1 o1 c1 s cut w hr hcap hm hs hc hT h3 hs1 hn1 h8
end Go.Proofs.YthnbifkcbeldmaaDoor
