/- gobytes.LastIndexAny over rows. -/
import Derived.Test.YthnbifkcbeldmaaDoorBIdx
namespace Go.Proofs.YthnbifkcbeldmaaDoor
open Go Go.Shelf Go.RowKit Go.Lib
set_option linter.unusedVariables false
set_option maxHeartbeats 4000000 in
set_option maxRecDepth 1000000 in
theorem gBl_nil (b1 o1 c1 : Nat) (s cut : ByteArray) (w : World) (hr : Row w b1 o1 s) (hcap : s.size ≤ c1) (hm : c1 ≤ maxLen) (hs : s.size ≤ 2147483647) (hc : cut.size < 4294967281) (hT : Utf8Tabs 2 3 w) (h3 : cut.size = 0) :
    Calls Tryd.prog 66 #[.slice (some ⟨b1, o1, none⟩) s.size c1, .string cut] w (LaPost w s cut) := by
  have HT := Lib.hid hT
  have HR := Lib.hid hr
  have hv116 := gbZeroSet
  have hi116 := gbInfoSet
  have hsl : s.data.toList.length = s.size := (Lib.size_eq s).symm
  have mixed : Tryd.prog.follows Departure.mixedOrders = true := by kernel_rfl
  unfold maxLen at hm
  clear hT hr
  obtain rfl := nil_of h3
  have HP : Hid (LastIs (pOf ⟨#[]⟩) s.data.toList (-1)) := Lib.hid (.inl ⟨rfl, fun j _ _ => pOf_nil _⟩)
  clear h3
  go_enter Tryd.func66, Tryd.ntmps66
  go_wp2_with fail
  go_ret
  exact LaPost.ret HP.out (Below.refl _ _)
set_option maxHeartbeats 4000000 in
set_option maxRecDepth 1000000 in
theorem gBl_one (b1 o1 c1 : Nat) (s cut : ByteArray) (w : World) (hr : Row w b1 o1 s) (hcap : s.size ≤ c1) (hm : c1 ≤ maxLen) (hs : s.size ≤ 2147483647) (hc : cut.size < 4294967281) (hT : Utf8Tabs 2 3 w) (h3 : 0 < cut.size) (hs1 : s.size = 1) :
    Calls Tryd.prog 66 #[.slice (some ⟨b1, o1, none⟩) s.size c1, .string cut] w (LaPost w s cut) := by
  have HT := Lib.hid hT
  have HR := Lib.hid hr
  have hv116 := gbZeroSet
  have hi116 := gbInfoSet
  have hsl : s.data.toList.length = s.size := (Lib.size_eq s).symm
  have mixed : Tryd.prog.follows Departure.mixedOrders = true := by kernel_rfl
  unfold maxLen at hm
  clear hT hr
  have hemp : cut.toList.isEmpty = false := by
    rw [Lib.toList_data]
    cases h : cut.data.toList with
    | nil => have := Lib.size_eq cut; rw [h, List.length_nil] at this; omega
    | cons _ _ => rfl
  have hs0 : 0 < s.size := by omega
  obtain ⟨b, hx⟩ : ∃ b, s[0]'hs0 = b := ⟨_, rfl⟩
  have hl1 := list_one hs0 hs1 hx
  have hrn : rn s.data.toList 0 = rcOf b := rn_one _ b hl1
  have hcell : w.cell? ⟨b1, o1, none⟩ = some (.int .u8 (b.toNat : Int)) := by have := HR.out 0 hs0; rw [hx, Nat.add_zero] at this; exact this
  have hw32 : wrap32 (b.toNat : Int) = (b.toNat : Int) := by have := b.toNat_lt; unfold wrap32; omega
  have HY : Hid (pOf cut (rcOf b) = true → LastIs (pOf cut) s.data.toList 0) := Lib.hid (fun h => .inr ⟨0, rfl, St.zero _, by omega, by rw [hrn]; exact h, fun k _ h1 h2 => by omega⟩)
  have HN : Hid (pOf cut (rcOf b) = false → LastIs (pOf cut) s.data.toList (-1)) := Lib.hid (fun h => .inl ⟨rfl, fun k _ h2 => by
    obtain rfl : k = 0 := by omega
    rw [hrn]
    exact h⟩)
  have g0 : ((s.size : Int) == 1) = true := beq_iff_eq.2 (by omega)
  have g00 : (0 : Int) < (s.size : Int) := by omega
  have h8 : ¬ 8 < s.size := by omega
  have HU := Lib.hid (fun (W : World) => gbShould s.size W)
  rw [decide_eq_false h8] at HU
  clear hrn hl1 hx
  by_cases hb : b.toNat < 128
  · have hrc : rcOf b = b.toNat := if_pos hb
    rw [hrc] at HY HN
    have HIB := Lib.hid (ibStr cut b hb hc)
    have g1 : ¬ ((128 : Int) ≤ (b.toNat : Int)) := by omega
    clear hrc hs1 hsl
    cases hp : pOf cut b.toNat with
    | true =>
      have g2 : (0 : Int) ≤ irOf cut (b.toNat : Int) := of_decide_eq_true hp
      have HP := Lib.hid (HY.out hp)
      clear hp hb HY HN
      generalize irOf cut (b.toNat : Int) = V at g2 HIB
      go_enter Tryd.func66, Tryd.ntmps66
      go_wp2_with (first | (go_at_call 105; refine (HIB.out _).mono ?_; rintro e w2 ⟨rfl, hw⟩; rw [hw]) | (go_at_call 107; refine (HU.out _).mono ?_; rintro e w' ⟨rfl, hw⟩; rw [hw]))
      go_ret
      exact LaPost.ret HP.out (Below.refl _ _)
    | false =>
      have g2 : irOf cut (b.toNat : Int) < 0 := by have h : ¬ (0 ≤ irOf cut (b.toNat : Int)) := of_decide_eq_false hp; omega
      have HP := Lib.hid (HN.out hp)
      clear hp hb HY HN
      generalize irOf cut (b.toNat : Int) = V at g2 HIB
      go_enter Tryd.func66, Tryd.ntmps66
      go_wp2_with (first | (go_at_call 105; refine (HIB.out _).mono ?_; rintro e w2 ⟨rfl, hw⟩; rw [hw]) | (go_at_call 107; refine (HU.out _).mono ?_; rintro e w' ⟨rfl, hw⟩; rw [hw]))
      go_ret
      exact LaPost.ret HP.out (Below.refl _ _)
  · have hrc : rcOf b = 65533 := if_neg hb
    rw [hrc] at HY HN
    have g1 : (128 : Int) ≤ (b.toNat : Int) := by omega
    have BW : Below w.heap.size w w := Below.refl _ _
    have hph := pOf_has cut 65533 (.inr (by omega))
    have HPH := Lib.hid hph
    clear hrc hs1 hsl hb hph
    go_enter Tryd.func66, Tryd.ntmps66
    go_wp2_with (first | (go_at_call 107; refine (HU.out _).mono ?_; rintro e w' ⟨rfl, hw⟩; rw [hw]))
    go_loopg [8] cut.size (fun g _ wx => ∃ pos : Nat, wx = w.iter cut pos ∧ pos ≤ cut.size ∧ cut.size ≤ pos + g ∧ Hid ((tailStarts cut pos).any (isR cut 65533) = hasR cut 65533))
    case atStart => exact ⟨0, rfl, Nat.zero_le _, by omega, Lib.hid (by rw [tailStarts_zero]; rfl)⟩
    case round =>
      obtain ⟨pos, rfl, hp, hg, H⟩ := hrel
      have BI : Below w.heap.size w (w.iter cut pos) := BW.alloc BW.size _
      by_cases hlt2 : pos < cut.size
      · have hnx := fun ty => run_next_any (P := Tryd.prog) w cut pos ty hlt2
        have hw2 := decode_w_le cut pos hlt2
        have hw1 := decode_width_pos cut pos hlt2
        have HSS := H.out
        rw [tailStarts_step cut pos hlt2, List.any_cons] at HSS
        obtain ⟨g', rfl⟩ : ∃ g', gk = g' + 1 := ⟨gk - 1, by omega⟩
        by_cases hrr : (Utf8.decode cut pos).1 = 65533
        · have hD : (((Utf8.decode cut pos).1 : Int) == ((65533 : Nat) : Int)) = true := beq_iff_eq.2 (by omega)
          have hD2 : (((65533 : Nat) : Int) == ((Utf8.decode cut pos).1 : Int)) = true := beq_iff_eq.2 (by omega)
          have HQ : Hid (hasR cut 65533 = true) := Lib.hid (by rw [← HSS]; unfold isR; rw [hrr]; simp)
          clear HSS hrr
          go_wp2_with fail
          go_ret
          exact LaPost.ret (HY.out (HPH.out.trans HQ.out)) (BW.alloc BW.size _)
        · have hD : (((Utf8.decode cut pos).1 : Int) == ((65533 : Nat) : Int)) = false := beq_eq_false_iff_ne.2 (by omega)
          have hD2 : (((65533 : Nat) : Int) == ((Utf8.decode cut pos).1 : Int)) = false := beq_eq_false_iff_ne.2 (by omega)
          have HN2 : Hid ((tailStarts cut (pos + (Utf8.decode cut pos).2)).any (isR cut 65533) = hasR cut 65533) := Lib.hid (by rw [← HSS]; unfold isR; rw [beq_eq_false_iff_ne.2 hrr, Bool.false_or])
          clear HSS hrr
          go_wp2_with fail
          go_roundg g'
          case measure => omega
          case rel => exact ⟨_, rfl, hw2, by omega, HN2⟩
      · have hnx := fun ty => run_next_end (P := Tryd.prog) w cut pos ty hlt2
        have HQ : Hid (hasR cut 65533 = false) := Lib.hid (by rw [← H.out, tailStarts_end cut pos hlt2]; rfl)
        go_wp2_with fail
        go_ret
        exact LaPost.ret (HN.out (HPH.out.trans HQ.out)) BI
set_option maxHeartbeats 4000000 in
set_option maxRecDepth 1000000 in
theorem gBl_set (b1 o1 c1 : Nat) (s cut : ByteArray) (w : World) (hr : Row w b1 o1 s) (hcap : s.size ≤ c1) (hm : c1 ≤ maxLen) (hs : s.size ≤ 2147483647) (hc : cut.size < 4294967281) (hT : Utf8Tabs 2 3 w) (h3 : 0 < cut.size) (h8 : 8 < s.size) (ha : ∀ (j : Nat) b, cut.data.toList[j]? = some b → b.toNat < 128) :
    Calls Tryd.prog 66 #[.slice (some ⟨b1, o1, none⟩) s.size c1, .string cut] w (LaPost w s cut) := by
  have HT := Lib.hid hT
  have HR := Lib.hid hr
  have hv116 := gbZeroSet
  have hi116 := gbInfoSet
  have hsl : s.data.toList.length = s.size := (Lib.size_eq s).symm
  have mixed : Tryd.prog.follows Departure.mixedOrders = true := by kernel_rfl
  unfold maxLen at hm
  clear hT hr
  have hemp : cut.toList.isEmpty = false := by
    rw [Lib.toList_data]
    cases h : cut.data.toList with
    | nil => have := Lib.size_eq cut; rw [h, List.length_nil] at this; omega
    | cons _ _ => rfl
  have HU := Lib.hid (fun (W : World) => gbShould s.size W)
  rw [decide_eq_true h8] at HU
  have hM := Lib.hid (bytes_makeASCIISet hv116 hi116 cut w hc ha)
  have hsz := Lib.setCells_size cut.data.toList
  have hs1' := Lib.setCells_one cut.data.toList
  have hsc : (storeCells ⟨w.heap.size + 1, 0, none⟩ (Lib.setCells cut.data.toList).toList 0).run Tryd.prog ((w.alloc (.cells (Lib.setCells cut.data.toList) 61)).alloc (.cells (Array.replicate 256 (.bool false)) 61)) = .ok () ((w.alloc (.cells (Lib.setCells cut.data.toList) 61)).alloc (.cells (Lib.setCells cut.data.toList) 61)) := by
    have := run_storeCells_new (P := Tryd.prog) (w.alloc (.cells (Lib.setCells cut.data.toList) 61)) 61 (Array.replicate 256 (.bool false)) (Lib.setCells cut.data.toList) (by rw [hsz]; exact hi116) (by rw [hsz, Array.size_replicate]) hs1'
    simpa using this
  have BA : Below w.heap.size w ((w.alloc (.cells (Lib.setCells cut.data.toList) 61)).alloc (.cells (Lib.setCells cut.data.toList) 61)) := ((Below.refl _ w).alloc (Nat.le_refl _) _).alloc (by simp) _
  have HS1 := Lib.hid hs1'
  clear hs1'
  have HCA : Hid (∀ x : UInt8, ((w.alloc (.cells (Lib.setCells cut.data.toList) 61)).alloc (.cells (Lib.setCells cut.data.toList) 61)).cell? ⟨w.heap.size + 1, x.toNat, none⟩ = some (.bool (cut.data.toList.contains x))) := Lib.hid (fun x => by
    rw [World.cell?_alloc_at _ _ _ _ (by simp), Lib.setCells_at])
  have HA := Lib.hid (ascii_mem ha)
  clear ha
  go_enter Tryd.func66, Tryd.ntmps66
  go_wp2_with (first | (go_at_call 107; refine (HU.out _).mono ?_; rintro e w' ⟨rfl, hw⟩; rw [hw]) | (go_at_call 69; refine hM.out.mono ?_; rintro e w' ⟨rfl, hw⟩; rw [hw]))
  clear hsc
  obtain ⟨W1, hW1⟩ : ∃ W1, ((w.alloc (.cells (Lib.setCells cut.data.toList) 61)).alloc (.cells (Lib.setCells cut.data.toList) 61)) = W1 := ⟨_, rfl⟩
  rw [hW1] at BA HCA ⊢
  clear hW1 hM
  go_loopw [7] (LbRel W1 cut s) (fun v _ => ((RowKit.intOf v) + 1).toNat)
  case atStart => exact ⟨s.data.toList.length, by rw [← Lib.size_eq], Nat.le_refl _, fun k h1 h2 => by omega, rfl⟩
  case round =>
    obtain ⟨i, rfl, hil, hall, rfl⟩ := hrel
    have HALL := Lib.hid hall
    clear hall
    by_cases h0 : 0 < i
    · obtain ⟨i', rfl⟩ : ∃ i', i = i' + 1 := ⟨i - 1, by omega⟩
      have hi' : i' < s.size := by omega
      have e0 : ((i' + 1 : Nat) : Int) - 1 = (i' : Int) := by omega
      have e1 : (0 : Int) ≤ (i' : Int) := by omega
      have e2 : (i' : Int) < (s.size : Int) := by omega
      obtain ⟨x, hx⟩ : ∃ x, getElem s i' hi' = x := ⟨_, rfl⟩
      have hcell : wr.cell? ⟨b1, o1 + i', none⟩ = some (.int .u8 (x.toNat : Int)) := by rw [← hx]; exact (HR.out.later BA) i' hi'
      have hgd : s.data.toList.getD i' 0 = x := by rw [List.getD_eq_getElem?_getD, data_getElem? s i' hi', hx]; rfl
      have hcx := HCA.out x
      rw [e0]
      clear e0
      cases hin : cut.data.toList.contains x with
      | true =>
        rw [hin] at hcx
        have hat := ascii_at (l := s.data.toList) (i := i') HA.out (by omega) (by rw [hgd]; exact hin)
        have HP : Hid (LastIs (pOf cut) s.data.toList (i' : Int)) := Lib.hid (.inr ⟨i', rfl, hat.1, by omega, hat.2, fun k hk h1 h2 => ascii_last HA.out HALL.out k hk (by omega) h2⟩)
        clear hat hgd hin
        go_wp2_with (go_at_call 108; refine (bytes_asciiSet_contains _ x _ _ hcx).mono ?_; rintro e w' ⟨rfl, hw⟩; rw [hw])
        go_ret
        exact LaPost.ret HP.out BA
      | false =>
        rw [hin] at hcx
        have HN := Lib.hid hin
        have HG := Lib.hid hgd
        clear hin hgd
        go_wp2_with (go_at_call 108; refine (bytes_asciiSet_contains _ x _ _ hcx).mono ?_; rintro e w' ⟨rfl, hw⟩; rw [hw])
        go_roundw
        case rel => exact ⟨i', by go_num, by omega, fun k h1 h2 => by
          by_cases e : k = i'
          · subst e; rw [HG.out]; exact HN.out
          · exact HALL.out k (by omega) h2, rfl⟩
        case measure => simp [RowKit.intOf]
    · obtain rfl : i = 0 := by omega
      have HP : Hid (LastIs (pOf cut) s.data.toList (-1)) := Lib.hid (.inl ⟨rfl, fun k hk h => ascii_last HA.out HALL.out k hk (Nat.zero_le _) h⟩)
      clear h0
      go_wp2_with fail
      go_ret
      exact LaPost.ret HP.out BA
set_option maxHeartbeats 4000000 in
set_option maxRecDepth 1000000 in
theorem gBl_c1low (b1 o1 c1 : Nat) (s cut : ByteArray) (w : World) (hr : Row w b1 o1 s) (hcap : s.size ≤ c1) (hm : c1 ≤ maxLen) (hs : s.size ≤ 2147483647) (hc : cut.size < 4294967281) (hT : Utf8Tabs 2 3 w) (h3 : 0 < cut.size) (hs1 : s.size ≠ 1) (hn1 : cut.size = 1) (h8 : ¬ 8 < s.size) :
    Calls Tryd.prog 66 #[.slice (some ⟨b1, o1, none⟩) s.size c1, .string cut] w (LaPost w s cut) := by
  have HT := Lib.hid hT
  have HR := Lib.hid hr
  have hv116 := gbZeroSet
  have hi116 := gbInfoSet
  have hsl : s.data.toList.length = s.size := (Lib.size_eq s).symm
  have mixed : Tryd.prog.follows Departure.mixedOrders = true := by kernel_rfl
  unfold maxLen at hm
  clear hT hr
  have hemp : cut.toList.isEmpty = false := by
    rw [Lib.toList_data]
    cases h : cut.data.toList with
    | nil => have := Lib.size_eq cut; rw [h, List.length_nil] at this; omega
    | cons _ _ => rfl
  have hne1 : ((s.size : Int) == 1) = false := beq_eq_false_iff_ne.2 (by omega)
  have HU := Lib.hid (fun (W : World) => gbShould s.size W)
  rw [decide_eq_false h8] at HU
  obtain ⟨c, hx⟩ : ∃ c, cut[0]'h3 = c := ⟨_, rfl⟩
  have hl1 := list_one h3 hn1 hx
  have hw32 : wrap32 (c.toNat : Int) = (c.toNat : Int) := by have := c.toNat_lt; unfold wrap32; omega
  have HPC : Hid (∀ R, Scal R → (pOf cut R = true ↔ R = rcOf c)) := Lib.hid (fun R hR => pOf_one cut c hl1 R hR)
  have hcp2 : (0 : Int) < (cut.size : Int) := by omega
  have hnc1 : ((cut.size : Int) == 1) = true := beq_iff_eq.2 (by omega)
  clear hl1 hn1
  by_cases hcb : c.toNat < 128
  · have hrc : rcOf c = c.toNat := if_pos hcb
    rw [hrc] at HPC
    have g1 : ¬ ((128 : Int) ≤ (c.toNat : Int)) := by omega
    clear hrc
    go_enter Tryd.func66, Tryd.ntmps66
    go_wp2_with (first | (go_at_call 107; refine (HU.out _).mono ?_; rintro e w' ⟨rfl, hw⟩; rw [hw]))
    go_loopw [10, 11, 12] (fun v _ _ wr => LaRel w cut s v wr) (fun v _ _ _ => (RowKit.intOf v).toNat)
    case atStart => exact ⟨s.data.toList.length, by rw [← Lib.size_eq], St.len _, fun k hk h1 h2 => by omega, (Below.refl _ _)⟩
    case round =>
      obtain ⟨i, rfl, hst, hall, B⟩ := hrel
      have HALL := Lib.hid hall
      clear hall
      by_cases h0 : 0 < i
      · obtain ⟨j, hj, hjl, hji, hw⟩ := hst.pred h0
        have hlast := hj.last hjl
        rw [hw] at hlast
        obtain ⟨R, hR⟩ : ∃ R, rn s.data.toList j = R := ⟨_, rfl⟩
        obtain ⟨W0, hWd⟩ : ∃ W0, wd s.data.toList j = W0 := ⟨_, rfl⟩
        have hiz : i ≤ s.size := by have := hst.le; omega
        have hT1 : (s.extract 0 (i)).size = i := by rw [ByteArray.size_extract]; omega
        have HD : Hid (Calls Tryd.prog 110 #[.slice (some ⟨b1, o1, none⟩) (i) c1] wr fun e w' => e = .returned (.tuple #[.int .i32 (R : Int), .int .i64 (W0 : Int)]) ∧ Below wr.heap.size wr w') := Lib.hid (by
          have h := decLastRow (s.extract 0 (i)) b1 o1 c1 wr (by omega) (fun j hj => rowAt (row_upto (HR.out.later B) (i)) j hj) (by omega) (Utf8Tabs_below HT.out B)
          rw [hT1, Lib.extract_upto] at h
          rw [show (⟨(s.data.toList.take (i)).toArray⟩ : ByteArray).data.toList = s.data.toList.take (i) from rfl, hlast] at h
          rw [← hR, ← hWd]
          exact h)
        have hsc1 := rn_scal s.data.toList j
        have hwide : 128 ≤ (s.data.toList.getD j 0).toNat → rn s.data.toList j ≠ 65533 → 128 ≤ rn s.data.toList j ∧ rn s.data.toList j ≤ 1114111 ∧ (rn s.data.toList j < 55296 ∨ 57343 < rn s.data.toList j) ∧ wd s.data.toList j = (Utf8.encode (rn s.data.toList j : Int)).size := wide_enc hjl
        have hasc : (s.data.toList.getD j 0).toNat < 128 → R = (s.data.toList.getD j 0).toNat ∧ W0 = 1 := fun hb => by
          have hdl := decL_at s.data.toList j
          rw [decodeN_ascii _ _ _ _ _ hb] at hdl
          rw [← hR, ← hWd]
          unfold rn wd
          rw [hdl]
          exact ⟨rfl, rfl⟩
        have hwp := (wd_le s.data.toList j hjl).1
        rw [hWd] at hw hwp
        rw [hR, hWd] at hwide
        rw [hR] at hsc1
        have HRN := Lib.hid hR
        have HWD := Lib.hid hWd
        have HJ := Lib.hid hj
        have HST := Lib.hid hst
        clear hlast hT1 hj hst hR hWd
        have e1 : (i : Int) - (W0 : Int) = (j : Int) := by omega
        have e2 : (i : Int) ≤ (c1 : Int) := by omega
        have e3 : (0 : Int) ≤ (i : Int) := by omega
        have e4 : (0 : Int) < (i : Int) := by omega
        have HIFF := Lib.hid (HPC.out R hsc1)
        clear hwide hasc hsc1
        by_cases hp : R = c.toNat
        · have g3 : ((R : Int) == (c.toNat : Int)) = true := beq_iff_eq.2 (by omega)
          have HPT : Hid (pOf cut R = true) := Lib.hid (HIFF.out.2 hp)
          clear hp
          have HP : Hid (LastIs (pOf cut) s.data.toList (j : Int)) := Lib.hid (.inr ⟨j, rfl, HJ.out, hjl, by rw [HRN.out]; exact HPT.out, fun k hk h1 h2 => HALL.out k hk (by have := HJ.out.chain hk h1; rw [HWD.out] at this; omega) h2⟩)
          go_wp2_with (go_at_call 110; refine HD.out.mono ?_; rintro e w2 ⟨rfl, hB2⟩; have B2 : Below w.heap.size w w2 := B.trans (hB2.mono B.size))
          go_ret
          exact LaPost.ret HP.out B2
        · have g3 : ((R : Int) == (c.toNat : Int)) = false := beq_eq_false_iff_ne.2 (by omega)
          have HPF : Hid (pOf cut R = false) := Lib.hid (by
            cases h : pOf cut R with
            | false => rfl
            | true => exact absurd (HIFF.out.1 h) hp)
          clear hp
          go_wp2_with (go_at_call 110; refine HD.out.mono ?_; rintro e w2 ⟨rfl, hB2⟩; have B2 : Below w.heap.size w w2 := B.trans (hB2.mono B.size))
          have HREL : LaRel w cut s (.int .i64 (j : Int)) _ := ⟨j, rfl, HJ.out, fun k hk h1 h2 => by
            by_cases e : k = j
            · subst e; rw [HRN.out]; exact HPF.out
            · have := HJ.out.chain hk (by omega)
              rw [HWD.out] at this
              exact HALL.out k hk (by omega) h2, B2⟩
          go_roundw
          case rel => first | exact HREL | (rw [hw32]; exact ⟨_, _, _, _, _, _, _, _, _, _, _, _, _, _, _, _, _, _, _, _, HREL, rfl⟩) | exact ⟨_, _, _, HREL, rfl⟩ | exact ⟨_, _, _, _, HREL, rfl⟩ | exact ⟨_, _, HREL, rfl⟩ | exact ⟨_, _, _, _, _, _, _, _, _, _, _, _, _, _, _, _, _, _, _, _, HREL, rfl⟩
          case measure => (simp [RowKit.intOf]; try omega)
      · obtain rfl : i = 0 := by omega
        have HP : Hid (LastIs (pOf cut) s.data.toList (-1)) := Lib.hid (.inl ⟨rfl, fun k hk h => HALL.out k hk (Nat.zero_le _) h⟩)
        clear h0
        go_wp2_with fail
        go_ret
        exact LaPost.ret HP.out B
  · have hrc : rcOf c = 65533 := if_neg hcb
    rw [hrc] at HPC
    have g1 : (128 : Int) ≤ (c.toNat : Int) := by omega
    clear hrc hcb
    go_enter Tryd.func66, Tryd.ntmps66
    go_wp2_with (first | (go_at_call 107; refine (HU.out _).mono ?_; rintro e w' ⟨rfl, hw⟩; rw [hw]))
    go_loopw [10, 11, 12] (fun v _ _ wr => LaRel w cut s v wr) (fun v _ _ _ => (RowKit.intOf v).toNat)
    case atStart => exact ⟨s.data.toList.length, by rw [← Lib.size_eq], St.len _, fun k hk h1 h2 => by omega, (Below.refl _ _)⟩
    case round =>
      obtain ⟨i, rfl, hst, hall, B⟩ := hrel
      have HALL := Lib.hid hall
      clear hall
      by_cases h0 : 0 < i
      · obtain ⟨j, hj, hjl, hji, hw⟩ := hst.pred h0
        have hlast := hj.last hjl
        rw [hw] at hlast
        obtain ⟨R, hR⟩ : ∃ R, rn s.data.toList j = R := ⟨_, rfl⟩
        obtain ⟨W0, hWd⟩ : ∃ W0, wd s.data.toList j = W0 := ⟨_, rfl⟩
        have hiz : i ≤ s.size := by have := hst.le; omega
        have hT1 : (s.extract 0 (i)).size = i := by rw [ByteArray.size_extract]; omega
        have HD : Hid (Calls Tryd.prog 110 #[.slice (some ⟨b1, o1, none⟩) (i) c1] wr fun e w' => e = .returned (.tuple #[.int .i32 (R : Int), .int .i64 (W0 : Int)]) ∧ Below wr.heap.size wr w') := Lib.hid (by
          have h := decLastRow (s.extract 0 (i)) b1 o1 c1 wr (by omega) (fun j hj => rowAt (row_upto (HR.out.later B) (i)) j hj) (by omega) (Utf8Tabs_below HT.out B)
          rw [hT1, Lib.extract_upto] at h
          rw [show (⟨(s.data.toList.take (i)).toArray⟩ : ByteArray).data.toList = s.data.toList.take (i) from rfl, hlast] at h
          rw [← hR, ← hWd]
          exact h)
        have hsc1 := rn_scal s.data.toList j
        have hwide : 128 ≤ (s.data.toList.getD j 0).toNat → rn s.data.toList j ≠ 65533 → 128 ≤ rn s.data.toList j ∧ rn s.data.toList j ≤ 1114111 ∧ (rn s.data.toList j < 55296 ∨ 57343 < rn s.data.toList j) ∧ wd s.data.toList j = (Utf8.encode (rn s.data.toList j : Int)).size := wide_enc hjl
        have hasc : (s.data.toList.getD j 0).toNat < 128 → R = (s.data.toList.getD j 0).toNat ∧ W0 = 1 := fun hb => by
          have hdl := decL_at s.data.toList j
          rw [decodeN_ascii _ _ _ _ _ hb] at hdl
          rw [← hR, ← hWd]
          unfold rn wd
          rw [hdl]
          exact ⟨rfl, rfl⟩
        have hwp := (wd_le s.data.toList j hjl).1
        rw [hWd] at hw hwp
        rw [hR, hWd] at hwide
        rw [hR] at hsc1
        have HRN := Lib.hid hR
        have HWD := Lib.hid hWd
        have HJ := Lib.hid hj
        have HST := Lib.hid hst
        clear hlast hT1 hj hst hR hWd
        have e1 : (i : Int) - (W0 : Int) = (j : Int) := by omega
        have e2 : (i : Int) ≤ (c1 : Int) := by omega
        have e3 : (0 : Int) ≤ (i : Int) := by omega
        have e4 : (0 : Int) < (i : Int) := by omega
        have HIFF := Lib.hid (HPC.out R hsc1)
        clear hwide hasc hsc1
        by_cases hp : R = 65533
        · have g3 : ((R : Int) == 65533) = true := beq_iff_eq.2 (by omega)
          have HPT : Hid (pOf cut R = true) := Lib.hid (HIFF.out.2 hp)
          clear hp
          have HP : Hid (LastIs (pOf cut) s.data.toList (j : Int)) := Lib.hid (.inr ⟨j, rfl, HJ.out, hjl, by rw [HRN.out]; exact HPT.out, fun k hk h1 h2 => HALL.out k hk (by have := HJ.out.chain hk h1; rw [HWD.out] at this; omega) h2⟩)
          go_wp2_with (go_at_call 110; refine HD.out.mono ?_; rintro e w2 ⟨rfl, hB2⟩; have B2 : Below w.heap.size w w2 := B.trans (hB2.mono B.size))
          go_ret
          exact LaPost.ret HP.out B2
        · have g3 : ((R : Int) == 65533) = false := beq_eq_false_iff_ne.2 (by omega)
          have HPF : Hid (pOf cut R = false) := Lib.hid (by
            cases h : pOf cut R with
            | false => rfl
            | true => exact absurd (HIFF.out.1 h) hp)
          clear hp
          go_wp2_with (go_at_call 110; refine HD.out.mono ?_; rintro e w2 ⟨rfl, hB2⟩; have B2 : Below w.heap.size w w2 := B.trans (hB2.mono B.size))
          have HREL : LaRel w cut s (.int .i64 (j : Int)) _ := ⟨j, rfl, HJ.out, fun k hk h1 h2 => by
            by_cases e : k = j
            · subst e; rw [HRN.out]; exact HPF.out
            · have := HJ.out.chain hk (by omega)
              rw [HWD.out] at this
              exact HALL.out k hk (by omega) h2, B2⟩
          go_roundw
          case rel => first | exact HREL | (rw [hw32]; exact ⟨_, _, _, _, _, _, _, _, _, _, _, _, _, _, _, _, _, _, _, _, HREL, rfl⟩) | exact ⟨_, _, _, HREL, rfl⟩ | exact ⟨_, _, _, _, HREL, rfl⟩ | exact ⟨_, _, HREL, rfl⟩ | exact ⟨_, _, _, _, _, _, _, _, _, _, _, _, _, _, _, _, _, _, _, _, HREL, rfl⟩
          case measure => (simp [RowKit.intOf]; try omega)
      · obtain rfl : i = 0 := by omega
        have HP : Hid (LastIs (pOf cut) s.data.toList (-1)) := Lib.hid (.inl ⟨rfl, fun k hk h => HALL.out k hk (Nat.zero_le _) h⟩)
        clear h0
        go_wp2_with fail
        go_ret
        exact LaPost.ret HP.out B
set_option maxHeartbeats 4000000 in
set_option maxRecDepth 1000000 in
theorem gBl_c1high (b1 o1 c1 : Nat) (s cut : ByteArray) (w : World) (hr : Row w b1 o1 s) (hcap : s.size ≤ c1) (hm : c1 ≤ maxLen) (hs : s.size ≤ 2147483647) (hc : cut.size < 4294967281) (hT : Utf8Tabs 2 3 w) (h3 : 0 < cut.size) (hs1 : s.size ≠ 1) (hn1 : cut.size = 1) (h8 : 8 < s.size) (n0 : Nat) (hf : FirstHigh cut n0) :
    Calls Tryd.prog 66 #[.slice (some ⟨b1, o1, none⟩) s.size c1, .string cut] w (LaPost w s cut) := by
  have HT := Lib.hid hT
  have HR := Lib.hid hr
  have hv116 := gbZeroSet
  have hi116 := gbInfoSet
  have hsl : s.data.toList.length = s.size := (Lib.size_eq s).symm
  have mixed : Tryd.prog.follows Departure.mixedOrders = true := by kernel_rfl
  unfold maxLen at hm
  clear hT hr
  have hemp : cut.toList.isEmpty = false := by
    rw [Lib.toList_data]
    cases h : cut.data.toList with
    | nil => have := Lib.size_eq cut; rw [h, List.length_nil] at this; omega
    | cons _ _ => rfl
  have hne1 : ((s.size : Int) == 1) = false := beq_eq_false_iff_ne.2 (by omega)
  have HU := Lib.hid (fun (W : World) => gbShould s.size W)
  rw [decide_eq_true h8] at HU
  have hM := Lib.hid (gbMakeSet_no cut n0 w hc hf)
  obtain ⟨C, hC⟩ : ∃ C, Lib.setCells (cut.data.toList.take n0) = C := ⟨_, rfl⟩
  have hsz := Lib.setCells_size (cut.data.toList.take n0)
  have hs1' := Lib.setCells_one (cut.data.toList.take n0)
  rw [hC] at hM hsz hs1'
  clear hC hf
  have hsc : (storeCells ⟨w.heap.size + 1, 0, none⟩ C.toList 0).run Tryd.prog ((w.alloc (.cells C 61)).alloc (.cells (Array.replicate 256 (.bool false)) 61)) = .ok () ((w.alloc (.cells C 61)).alloc (.cells C 61)) := by
    have := run_storeCells_new (P := Tryd.prog) (w.alloc (.cells C 61)) 61 (Array.replicate 256 (.bool false)) C (by rw [hsz]; exact hi116) (by rw [hsz, Array.size_replicate]) hs1'
    simpa using this
  have BA : Below w.heap.size w ((w.alloc (.cells C 61)).alloc (.cells C 61)) := ((Below.refl _ w).alloc (Nat.le_refl _) _).alloc (by simp) _
  have HS1 := Lib.hid hs1'
  clear hs1'
  obtain ⟨c, hx⟩ : ∃ c, cut[0]'h3 = c := ⟨_, rfl⟩
  have hl1 := list_one h3 hn1 hx
  have hw32 : wrap32 (c.toNat : Int) = (c.toNat : Int) := by have := c.toNat_lt; unfold wrap32; omega
  have HPC : Hid (∀ R, Scal R → (pOf cut R = true ↔ R = rcOf c)) := Lib.hid (fun R hR => pOf_one cut c hl1 R hR)
  have hcp2 : (0 : Int) < (cut.size : Int) := by omega
  have hnc1 : ((cut.size : Int) == 1) = true := beq_iff_eq.2 (by omega)
  clear hl1 hn1
  by_cases hcb : c.toNat < 128
  · have hrc : rcOf c = c.toNat := if_pos hcb
    rw [hrc] at HPC
    have g1 : ¬ ((128 : Int) ≤ (c.toNat : Int)) := by omega
    clear hrc
    go_enter Tryd.func66, Tryd.ntmps66
    go_wp2_with (first | (go_at_call 107; refine (HU.out _).mono ?_; rintro e w' ⟨rfl, hw⟩; rw [hw]) | (go_at_call 69; refine hM.out.mono ?_; rintro e w' ⟨rfl, hw⟩; rw [hw]))
    clear hsc
    obtain ⟨W1, hW1⟩ : ∃ W1, ((w.alloc (.cells C 61)).alloc (.cells C 61)) = W1 := ⟨_, rfl⟩
    rw [hW1] at BA ⊢
    clear hW1 hM
    go_loopw [10, 11, 12] (fun v _ _ wr => LaRel w cut s v wr) (fun v _ _ _ => (RowKit.intOf v).toNat)
    case atStart => exact ⟨s.data.toList.length, by rw [← Lib.size_eq], St.len _, fun k hk h1 h2 => by omega, BA⟩
    case round =>
      obtain ⟨i, rfl, hst, hall, B⟩ := hrel
      have HALL := Lib.hid hall
      clear hall
      by_cases h0 : 0 < i
      · obtain ⟨j, hj, hjl, hji, hw⟩ := hst.pred h0
        have hlast := hj.last hjl
        rw [hw] at hlast
        obtain ⟨R, hR⟩ : ∃ R, rn s.data.toList j = R := ⟨_, rfl⟩
        obtain ⟨W0, hWd⟩ : ∃ W0, wd s.data.toList j = W0 := ⟨_, rfl⟩
        have hiz : i ≤ s.size := by have := hst.le; omega
        have hT1 : (s.extract 0 (i)).size = i := by rw [ByteArray.size_extract]; omega
        have HD : Hid (Calls Tryd.prog 110 #[.slice (some ⟨b1, o1, none⟩) (i) c1] wr fun e w' => e = .returned (.tuple #[.int .i32 (R : Int), .int .i64 (W0 : Int)]) ∧ Below wr.heap.size wr w') := Lib.hid (by
          have h := decLastRow (s.extract 0 (i)) b1 o1 c1 wr (by omega) (fun j hj => rowAt (row_upto (HR.out.later B) (i)) j hj) (by omega) (Utf8Tabs_below HT.out B)
          rw [hT1, Lib.extract_upto] at h
          rw [show (⟨(s.data.toList.take (i)).toArray⟩ : ByteArray).data.toList = s.data.toList.take (i) from rfl, hlast] at h
          rw [← hR, ← hWd]
          exact h)
        have hsc1 := rn_scal s.data.toList j
        have hwide : 128 ≤ (s.data.toList.getD j 0).toNat → rn s.data.toList j ≠ 65533 → 128 ≤ rn s.data.toList j ∧ rn s.data.toList j ≤ 1114111 ∧ (rn s.data.toList j < 55296 ∨ 57343 < rn s.data.toList j) ∧ wd s.data.toList j = (Utf8.encode (rn s.data.toList j : Int)).size := wide_enc hjl
        have hasc : (s.data.toList.getD j 0).toNat < 128 → R = (s.data.toList.getD j 0).toNat ∧ W0 = 1 := fun hb => by
          have hdl := decL_at s.data.toList j
          rw [decodeN_ascii _ _ _ _ _ hb] at hdl
          rw [← hR, ← hWd]
          unfold rn wd
          rw [hdl]
          exact ⟨rfl, rfl⟩
        have hwp := (wd_le s.data.toList j hjl).1
        rw [hWd] at hw hwp
        rw [hR, hWd] at hwide
        rw [hR] at hsc1
        have HRN := Lib.hid hR
        have HWD := Lib.hid hWd
        have HJ := Lib.hid hj
        have HST := Lib.hid hst
        clear hlast hT1 hj hst hR hWd
        have e1 : (i : Int) - (W0 : Int) = (j : Int) := by omega
        have e2 : (i : Int) ≤ (c1 : Int) := by omega
        have e3 : (0 : Int) ≤ (i : Int) := by omega
        have e4 : (0 : Int) < (i : Int) := by omega
        have HIFF := Lib.hid (HPC.out R hsc1)
        clear hwide hasc hsc1
        by_cases hp : R = c.toNat
        · have g3 : ((R : Int) == (c.toNat : Int)) = true := beq_iff_eq.2 (by omega)
          have HPT : Hid (pOf cut R = true) := Lib.hid (HIFF.out.2 hp)
          clear hp
          have HP : Hid (LastIs (pOf cut) s.data.toList (j : Int)) := Lib.hid (.inr ⟨j, rfl, HJ.out, hjl, by rw [HRN.out]; exact HPT.out, fun k hk h1 h2 => HALL.out k hk (by have := HJ.out.chain hk h1; rw [HWD.out] at this; omega) h2⟩)
          go_wp2_with (go_at_call 110; refine HD.out.mono ?_; rintro e w2 ⟨rfl, hB2⟩; have B2 : Below w.heap.size w w2 := B.trans (hB2.mono B.size))
          go_ret
          exact LaPost.ret HP.out B2
        · have g3 : ((R : Int) == (c.toNat : Int)) = false := beq_eq_false_iff_ne.2 (by omega)
          have HPF : Hid (pOf cut R = false) := Lib.hid (by
            cases h : pOf cut R with
            | false => rfl
            | true => exact absurd (HIFF.out.1 h) hp)
          clear hp
          go_wp2_with (go_at_call 110; refine HD.out.mono ?_; rintro e w2 ⟨rfl, hB2⟩; have B2 : Below w.heap.size w w2 := B.trans (hB2.mono B.size))
          have HREL : LaRel w cut s (.int .i64 (j : Int)) _ := ⟨j, rfl, HJ.out, fun k hk h1 h2 => by
            by_cases e : k = j
            · subst e; rw [HRN.out]; exact HPF.out
            · have := HJ.out.chain hk (by omega)
              rw [HWD.out] at this
              exact HALL.out k hk (by omega) h2, B2⟩
          go_roundw
          case rel => first | exact HREL | (rw [hw32]; exact ⟨_, _, _, _, _, _, _, _, _, _, _, _, _, _, _, _, _, _, _, _, HREL, rfl⟩) | exact ⟨_, _, _, HREL, rfl⟩ | exact ⟨_, _, _, _, HREL, rfl⟩ | exact ⟨_, _, HREL, rfl⟩ | exact ⟨_, _, _, _, _, _, _, _, _, _, _, _, _, _, _, _, _, _, _, _, HREL, rfl⟩
          case measure => (simp [RowKit.intOf]; try omega)
      · obtain rfl : i = 0 := by omega
        have HP : Hid (LastIs (pOf cut) s.data.toList (-1)) := Lib.hid (.inl ⟨rfl, fun k hk h => HALL.out k hk (Nat.zero_le _) h⟩)
        clear h0
        go_wp2_with fail
        go_ret
        exact LaPost.ret HP.out B
  · have hrc : rcOf c = 65533 := if_neg hcb
    rw [hrc] at HPC
    have g1 : (128 : Int) ≤ (c.toNat : Int) := by omega
    clear hrc hcb
    go_enter Tryd.func66, Tryd.ntmps66
    go_wp2_with (first | (go_at_call 107; refine (HU.out _).mono ?_; rintro e w' ⟨rfl, hw⟩; rw [hw]) | (go_at_call 69; refine hM.out.mono ?_; rintro e w' ⟨rfl, hw⟩; rw [hw]))
    clear hsc
    obtain ⟨W1, hW1⟩ : ∃ W1, ((w.alloc (.cells C 61)).alloc (.cells C 61)) = W1 := ⟨_, rfl⟩
    rw [hW1] at BA ⊢
    clear hW1 hM
    go_loopw [10, 11, 12] (fun v _ _ wr => LaRel w cut s v wr) (fun v _ _ _ => (RowKit.intOf v).toNat)
    case atStart => exact ⟨s.data.toList.length, by rw [← Lib.size_eq], St.len _, fun k hk h1 h2 => by omega, BA⟩
    case round =>
      obtain ⟨i, rfl, hst, hall, B⟩ := hrel
      have HALL := Lib.hid hall
      clear hall
      by_cases h0 : 0 < i
      · obtain ⟨j, hj, hjl, hji, hw⟩ := hst.pred h0
        have hlast := hj.last hjl
        rw [hw] at hlast
        obtain ⟨R, hR⟩ : ∃ R, rn s.data.toList j = R := ⟨_, rfl⟩
        obtain ⟨W0, hWd⟩ : ∃ W0, wd s.data.toList j = W0 := ⟨_, rfl⟩
        have hiz : i ≤ s.size := by have := hst.le; omega
        have hT1 : (s.extract 0 (i)).size = i := by rw [ByteArray.size_extract]; omega
        have HD : Hid (Calls Tryd.prog 110 #[.slice (some ⟨b1, o1, none⟩) (i) c1] wr fun e w' => e = .returned (.tuple #[.int .i32 (R : Int), .int .i64 (W0 : Int)]) ∧ Below wr.heap.size wr w') := Lib.hid (by
          have h := decLastRow (s.extract 0 (i)) b1 o1 c1 wr (by omega) (fun j hj => rowAt (row_upto (HR.out.later B) (i)) j hj) (by omega) (Utf8Tabs_below HT.out B)
          rw [hT1, Lib.extract_upto] at h
          rw [show (⟨(s.data.toList.take (i)).toArray⟩ : ByteArray).data.toList = s.data.toList.take (i) from rfl, hlast] at h
          rw [← hR, ← hWd]
          exact h)
        have hsc1 := rn_scal s.data.toList j
        have hwide : 128 ≤ (s.data.toList.getD j 0).toNat → rn s.data.toList j ≠ 65533 → 128 ≤ rn s.data.toList j ∧ rn s.data.toList j ≤ 1114111 ∧ (rn s.data.toList j < 55296 ∨ 57343 < rn s.data.toList j) ∧ wd s.data.toList j = (Utf8.encode (rn s.data.toList j : Int)).size := wide_enc hjl
        have hasc : (s.data.toList.getD j 0).toNat < 128 → R = (s.data.toList.getD j 0).toNat ∧ W0 = 1 := fun hb => by
          have hdl := decL_at s.data.toList j
          rw [decodeN_ascii _ _ _ _ _ hb] at hdl
          rw [← hR, ← hWd]
          unfold rn wd
          rw [hdl]
          exact ⟨rfl, rfl⟩
        have hwp := (wd_le s.data.toList j hjl).1
        rw [hWd] at hw hwp
        rw [hR, hWd] at hwide
        rw [hR] at hsc1
        have HRN := Lib.hid hR
        have HWD := Lib.hid hWd
        have HJ := Lib.hid hj
        have HST := Lib.hid hst
        clear hlast hT1 hj hst hR hWd
        have e1 : (i : Int) - (W0 : Int) = (j : Int) := by omega
        have e2 : (i : Int) ≤ (c1 : Int) := by omega
        have e3 : (0 : Int) ≤ (i : Int) := by omega
        have e4 : (0 : Int) < (i : Int) := by omega
        have HIFF := Lib.hid (HPC.out R hsc1)
        clear hwide hasc hsc1
        by_cases hp : R = 65533
        · have g3 : ((R : Int) == 65533) = true := beq_iff_eq.2 (by omega)
          have HPT : Hid (pOf cut R = true) := Lib.hid (HIFF.out.2 hp)
          clear hp
          have HP : Hid (LastIs (pOf cut) s.data.toList (j : Int)) := Lib.hid (.inr ⟨j, rfl, HJ.out, hjl, by rw [HRN.out]; exact HPT.out, fun k hk h1 h2 => HALL.out k hk (by have := HJ.out.chain hk h1; rw [HWD.out] at this; omega) h2⟩)
          go_wp2_with (go_at_call 110; refine HD.out.mono ?_; rintro e w2 ⟨rfl, hB2⟩; have B2 : Below w.heap.size w w2 := B.trans (hB2.mono B.size))
          go_ret
          exact LaPost.ret HP.out B2
        · have g3 : ((R : Int) == 65533) = false := beq_eq_false_iff_ne.2 (by omega)
          have HPF : Hid (pOf cut R = false) := Lib.hid (by
            cases h : pOf cut R with
            | false => rfl
            | true => exact absurd (HIFF.out.1 h) hp)
          clear hp
          go_wp2_with (go_at_call 110; refine HD.out.mono ?_; rintro e w2 ⟨rfl, hB2⟩; have B2 : Below w.heap.size w w2 := B.trans (hB2.mono B.size))
          have HREL : LaRel w cut s (.int .i64 (j : Int)) _ := ⟨j, rfl, HJ.out, fun k hk h1 h2 => by
            by_cases e : k = j
            · subst e; rw [HRN.out]; exact HPF.out
            · have := HJ.out.chain hk (by omega)
              rw [HWD.out] at this
              exact HALL.out k hk (by omega) h2, B2⟩
          go_roundw
          case rel => first | exact HREL | (rw [hw32]; exact ⟨_, _, _, _, _, _, _, _, _, _, _, _, _, _, _, _, _, _, _, _, HREL, rfl⟩) | exact ⟨_, _, _, HREL, rfl⟩ | exact ⟨_, _, _, _, HREL, rfl⟩ | exact ⟨_, _, HREL, rfl⟩ | exact ⟨_, _, _, _, _, _, _, _, _, _, _, _, _, _, _, _, _, _, _, _, HREL, rfl⟩
          case measure => (simp [RowKit.intOf]; try omega)
      · obtain rfl : i = 0 := by omega
        have HP : Hid (LastIs (pOf cut) s.data.toList (-1)) := Lib.hid (.inl ⟨rfl, fun k hk h => HALL.out k hk (Nat.zero_le _) h⟩)
        clear h0
        go_wp2_with fail
        go_ret
        exact LaPost.ret HP.out B
set_option maxHeartbeats 4000000 in
set_option maxRecDepth 1000000 in
theorem gBl_low (b1 o1 c1 : Nat) (s cut : ByteArray) (w : World) (hr : Row w b1 o1 s) (hcap : s.size ≤ c1) (hm : c1 ≤ maxLen) (hs : s.size ≤ 2147483647) (hc : cut.size < 4294967281) (hT : Utf8Tabs 2 3 w) (h3 : 0 < cut.size) (hs1 : s.size ≠ 1) (hn1 : cut.size ≠ 1) (h8 : ¬ 8 < s.size) :
    Calls Tryd.prog 66 #[.slice (some ⟨b1, o1, none⟩) s.size c1, .string cut] w (LaPost w s cut) := by
  have HT := Lib.hid hT
  have HR := Lib.hid hr
  have hv116 := gbZeroSet
  have hi116 := gbInfoSet
  have hsl : s.data.toList.length = s.size := (Lib.size_eq s).symm
  have mixed : Tryd.prog.follows Departure.mixedOrders = true := by kernel_rfl
  unfold maxLen at hm
  clear hT hr
  have hemp : cut.toList.isEmpty = false := by
    rw [Lib.toList_data]
    cases h : cut.data.toList with
    | nil => have := Lib.size_eq cut; rw [h, List.length_nil] at this; omega
    | cons _ _ => rfl
  have hne1 : ((s.size : Int) == 1) = false := beq_eq_false_iff_ne.2 (by omega)
  have hnc1 : ((cut.size : Int) == 1) = false := beq_eq_false_iff_ne.2 (by omega)
  have HU := Lib.hid (fun (W : World) => gbShould s.size W)
  rw [decide_eq_false h8] at HU
  go_enter Tryd.func66, Tryd.ntmps66
  go_wp2_with (first | (go_at_call 107; refine (HU.out _).mono ?_; rintro e w' ⟨rfl, hw⟩; rw [hw]))
  go_loopw [13, 14, 15, 17] (fun v _ _ _ wr => LaRel w cut s v wr) (fun v _ _ _ _ => (RowKit.intOf v).toNat)
  case atStart => exact ⟨s.data.toList.length, by rw [← Lib.size_eq], St.len _, fun k hk h1 h2 => by omega, (Below.refl _ _)⟩
  case round =>
    obtain ⟨i, rfl, hst, hall, B⟩ := hrel
    have HALL := Lib.hid hall
    clear hall
    by_cases h0 : 0 < i
    · obtain ⟨m, rfl⟩ : ∃ m, i = m + 1 := ⟨i - 1, by omega⟩
      obtain ⟨j, hj, hjl, hji, hw⟩ := hst.pred h0
      have hlast := hj.last hjl
      rw [hw] at hlast
      obtain ⟨R, hR⟩ : ∃ R, rn s.data.toList j = R := ⟨_, rfl⟩
      obtain ⟨W0, hWd⟩ : ∃ W0, wd s.data.toList j = W0 := ⟨_, rfl⟩
      have hiz : m + 1 ≤ s.size := by have := hst.le; omega
      have hT1 : (s.extract 0 (m + 1)).size = m + 1 := by rw [ByteArray.size_extract]; omega
      have HD : Hid (Calls Tryd.prog 110 #[.slice (some ⟨b1, o1, none⟩) (m + 1) c1] wr fun e w' => e = .returned (.tuple #[.int .i32 (R : Int), .int .i64 (W0 : Int)]) ∧ Below wr.heap.size wr w') := Lib.hid (by
        have h := decLastRow (s.extract 0 (m + 1)) b1 o1 c1 wr (by omega) (fun j hj => rowAt (row_upto (HR.out.later B) (m + 1)) j hj) (by omega) (Utf8Tabs_below HT.out B)
        rw [hT1, Lib.extract_upto] at h
        rw [show (⟨(s.data.toList.take (m + 1)).toArray⟩ : ByteArray).data.toList = s.data.toList.take (m + 1) from rfl, hlast] at h
        rw [← hR, ← hWd]
        exact h)
      have hsc1 := rn_scal s.data.toList j
      have hwide : 128 ≤ (s.data.toList.getD j 0).toNat → rn s.data.toList j ≠ 65533 → 128 ≤ rn s.data.toList j ∧ rn s.data.toList j ≤ 1114111 ∧ (rn s.data.toList j < 55296 ∨ 57343 < rn s.data.toList j) ∧ wd s.data.toList j = (Utf8.encode (rn s.data.toList j : Int)).size := wide_enc hjl
      have hasc : (s.data.toList.getD j 0).toNat < 128 → R = (s.data.toList.getD j 0).toNat ∧ W0 = 1 := fun hb => by
        have hdl := decL_at s.data.toList j
        rw [decodeN_ascii _ _ _ _ _ hb] at hdl
        rw [← hR, ← hWd]
        unfold rn wd
        rw [hdl]
        exact ⟨rfl, rfl⟩
      have hwp := (wd_le s.data.toList j hjl).1
      rw [hWd] at hw hwp
      rw [hR, hWd] at hwide
      rw [hR] at hsc1
      have HRN := Lib.hid hR
      have HWD := Lib.hid hWd
      have HJ := Lib.hid hj
      have HST := Lib.hid hst
      clear hlast hT1 hj hst hR hWd
      have hms : m < s.size := by omega
      obtain ⟨x, hx⟩ : ∃ x, s[m]'hms = x := ⟨_, rfl⟩
      have hcell : wr.cell? ⟨b1, o1 + m, none⟩ = some (.int .u8 (x.toNat : Int)) := by rw [← hx]; exact (HR.out.later B) m hms
      have hgd : s.data.toList.getD m 0 = x := by rw [List.getD_eq_getElem?_getD, data_getElem? s m hms, hx]; rfl
      have hw32 : wrap32 (x.toNat : Int) = (x.toNat : Int) := by have := x.toNat_lt; unfold wrap32; omega
      have hmz : ((m : Int)).toNat = m := by omega
      have hmc : (m : Int) < ((m : Int) + 1) := by omega
      have hmp : (0 : Int) < ((m : Int) + 1) := by omega
      have d1 : (m : Int) + 1 ≤ (c1 : Int) := by omega
      have hlow : (s.data.toList.getD j 0).toNat < 128 ↔ x.toNat < 128 := by
        constructor
        · intro h
          have h2 := (hasc h).2
          have : j = m := by omega
          rw [← hgd, ← this]; exact h
        · intro h
          apply Nat.lt_of_not_le
          intro hge
          by_cases hw1 : W0 = 1
          · have : j = m := by omega
            rw [this, hgd] at hge
            omega
          · have hint := interior (l := s.data.toList) (i := j) (t := W0 - 1) (by omega) (by rw [HWD.out]; omega)
            rw [show j + (W0 - 1) = m by omega, hgd] at hint
            omega
      have e8 : IntKind.i64.wrap ((m : Int) + 1 - (W0 : Int)) = (j : Int) := by rw [IntKind.wrap_i64]; omega
      by_cases hb : x.toNat < 128
      · obtain ⟨hRx, hW1⟩ := hasc (hlow.2 hb)
        have hjm : j = m := by omega
        rw [hjm, hgd] at hRx
        have HIB := Lib.hid (ibStr cut x hb hc)
        have g1 : (x.toNat : Int) < 128 := by omega
        subst hjm
        have HRX := Lib.hid hRx
        clear hwide hasc hlow hgd hb e8 hRx
        cases hp : pOf cut x.toNat with
        | true =>
          have g2 : (0 : Int) ≤ irOf cut (x.toNat : Int) := of_decide_eq_true hp
          have HPT : Hid (pOf cut R = true) := Lib.hid (by rw [HRX.out]; exact hp)
          clear hp
          generalize irOf cut (x.toNat : Int) = V at g2 HIB
          have HP : Hid (LastIs (pOf cut) s.data.toList (j : Int)) := Lib.hid (.inr ⟨j, rfl, HJ.out, hjl, by rw [HRN.out]; exact HPT.out, fun k hk h1 h2 => HALL.out k hk (by have := HJ.out.chain hk h1; rw [HWD.out] at this; omega) h2⟩)
          go_wp2_with (go_at_call 105; refine (HIB.out _).mono ?_; rintro e w2 ⟨rfl, hw⟩; rw [hw])
          go_ret
          exact LaPost.ret HP.out B
        | false =>
          have g2 : irOf cut (x.toNat : Int) < 0 := by have h : ¬ (0 ≤ irOf cut (x.toNat : Int)) := of_decide_eq_false hp; omega
          have HPF : Hid (pOf cut R = false) := Lib.hid (by rw [HRX.out]; exact hp)
          clear hp
          generalize irOf cut (x.toNat : Int) = V at g2 HIB
          go_wp2_with (go_at_call 105; refine (HIB.out _).mono ?_; rintro e w2 ⟨rfl, hw⟩; rw [hw])
          have HREL : LaRel w cut s (.int .i64 (j : Int)) _ := ⟨j, rfl, HJ.out, fun k hk h1 h2 => by
            by_cases e : k = j
            · subst e; rw [HRN.out]; exact HPF.out
            · have := HJ.out.chain hk (by omega)
              rw [HWD.out] at this
              exact HALL.out k hk (by omega) h2, B⟩
          go_roundw
          case rel => first | exact HREL | (rw [hw32]; exact ⟨_, _, _, _, _, _, _, _, _, _, _, _, _, _, _, _, _, _, _, _, HREL, rfl⟩) | exact ⟨_, _, _, HREL, rfl⟩ | exact ⟨_, _, _, _, HREL, rfl⟩ | exact ⟨_, _, HREL, rfl⟩ | exact ⟨_, _, _, _, _, _, _, _, _, _, _, _, _, _, _, _, _, _, _, _, HREL, rfl⟩
          case measure => (simp [RowKit.intOf]; try omega)
      · have hwide := hwide (by have := fun h => hb (hlow.1 h); omega)
        have HPR := Lib.hid (pOf_has cut R hsc1)
        have g1 : ¬ (x.toNat : Int) < 128 := by omega
        have gz : ¬ ((W0 : Int) ≤ 0) := by omega
        clear hasc hlow hgd hsc1
        by_cases hne : R = 65533
        · have g3 : ((R : Int) == 65533) = true := beq_iff_eq.2 (by omega)
          clear hwide hne
          go_wp2_with (go_at_call 110; refine HD.out.mono ?_; rintro e w2 ⟨rfl, hB2⟩; have B2 : Below w.heap.size w w2 := B.trans (hB2.mono B.size))
          go_loopg [17] cut.size (fun g _ wx => ∃ pos : Nat, wx = w2.iter cut pos ∧ pos ≤ cut.size ∧ cut.size ≤ pos + g ∧ Hid ((tailStarts cut pos).any (isR cut R) = hasR cut R))
          case atStart => exact ⟨0, rfl, Nat.zero_le _, by omega, Lib.hid (by rw [tailStarts_zero]; rfl)⟩
          case round =>
            obtain ⟨pos, rfl, hp, hg, H⟩ := hrel
            have BI : Below w.heap.size w (w2.iter cut pos) := B2.alloc B2.size _
            by_cases hlt2 : pos < cut.size
            · have hnx := fun ty => run_next_any (P := Tryd.prog) w2 cut pos ty hlt2
              have hw2 := decode_w_le cut pos hlt2
              have hw1 := decode_width_pos cut pos hlt2
              have HSS := H.out
              rw [tailStarts_step cut pos hlt2, List.any_cons] at HSS
              obtain ⟨g', rfl⟩ : ∃ g', gk = g' + 1 := ⟨gk - 1, by omega⟩
              by_cases hrr : (Utf8.decode cut pos).1 = R
              · have hD : (((Utf8.decode cut pos).1 : Int) == ((R : Nat) : Int)) = true := beq_iff_eq.2 (by omega)
                have hD2 : (((R : Nat) : Int) == ((Utf8.decode cut pos).1 : Int)) = true := beq_iff_eq.2 (by omega)
                have HQ : Hid (hasR cut R = true) := Lib.hid (by rw [← HSS]; unfold isR; rw [hrr]; simp)
                clear HSS hrr
                have HP : Hid (LastIs (pOf cut) s.data.toList (j : Int)) := Lib.hid (.inr ⟨j, rfl, HJ.out, hjl, by rw [HRN.out]; exact (HPR.out.trans HQ.out), fun k hk h1 h2 => HALL.out k hk (by have := HJ.out.chain hk h1; rw [HWD.out] at this; omega) h2⟩)
                go_wp2_with fail
                go_ret
                exact LaPost.ret HP.out (B2.alloc B2.size _)
              · have hD : (((Utf8.decode cut pos).1 : Int) == ((R : Nat) : Int)) = false := beq_eq_false_iff_ne.2 (by omega)
                have hD2 : (((R : Nat) : Int) == ((Utf8.decode cut pos).1 : Int)) = false := beq_eq_false_iff_ne.2 (by omega)
                have HN2 : Hid ((tailStarts cut (pos + (Utf8.decode cut pos).2)).any (isR cut R) = hasR cut R) := Lib.hid (by rw [← HSS]; unfold isR; rw [beq_eq_false_iff_ne.2 hrr, Bool.false_or])
                clear HSS hrr
                go_wp2_with fail
                go_roundg g'
                case measure => omega
                case rel => exact ⟨_, rfl, hw2, by omega, HN2⟩
            · have hnx := fun ty => run_next_end (P := Tryd.prog) w2 cut pos ty hlt2
              have HQ : Hid (hasR cut R = false) := Lib.hid (by rw [← H.out, tailStarts_end cut pos hlt2]; rfl)
              go_wp2_with fail
              have HREL : LaRel w cut s (.int .i64 (j : Int)) _ := ⟨j, rfl, HJ.out, fun k hk h1 h2 => by
                by_cases e : k = j
                · subst e; rw [HRN.out]; exact (HPR.out.trans HQ.out)
                · have := HJ.out.chain hk (by omega)
                  rw [HWD.out] at this
                  exact HALL.out k hk (by omega) h2, BI⟩
              go_roundw
              case rel => first | exact HREL | (rw [hw32]; exact ⟨_, _, _, _, _, _, _, _, _, _, _, _, _, _, _, _, _, _, _, _, HREL, rfl⟩) | exact ⟨_, _, _, HREL, rfl⟩ | exact ⟨_, _, _, _, HREL, rfl⟩ | exact ⟨_, _, HREL, rfl⟩ | exact ⟨_, _, _, _, _, _, _, _, _, _, _, _, _, _, _, _, _, _, _, _, HREL, rfl⟩
              case measure => (simp [RowKit.intOf]; try omega)
        · have g3 : ((R : Int) == 65533) = false := beq_eq_false_iff_ne.2 (by omega)
          obtain ⟨q1, q2, q3, q4⟩ := hwide hne
          by_cases hcw : cut.size = W0
          · have heq := eq_enc q1 q2 q3 hne (hcw.trans q4)
            have g4 : ((cut.size : Int) == (W0 : Int)) = true := beq_iff_eq.2 (by omega)
            clear hwide q4 q3 hne hcw
            cases hp : pOf cut R with
            | true =>
              rw [hp] at heq
              have HPT := Lib.hid hp
              clear hp
              have HP : Hid (LastIs (pOf cut) s.data.toList (j : Int)) := Lib.hid (.inr ⟨j, rfl, HJ.out, hjl, by rw [HRN.out]; exact HPT.out, fun k hk h1 h2 => HALL.out k hk (by have := HJ.out.chain hk h1; rw [HWD.out] at this; omega) h2⟩)
              go_wp2_with (go_at_call 110; refine HD.out.mono ?_; rintro e w2 ⟨rfl, hB2⟩; have B2 : Below w.heap.size w w2 := B.trans (hB2.mono B.size))
              go_ret
              exact LaPost.ret HP.out B2
            | false =>
              rw [hp] at heq
              have HPF := Lib.hid hp
              clear hp
              go_wp2_with (go_at_call 110; refine HD.out.mono ?_; rintro e w2 ⟨rfl, hB2⟩; have B2 : Below w.heap.size w w2 := B.trans (hB2.mono B.size))
              have HREL : LaRel w cut s (.int .i64 (j : Int)) _ := ⟨j, rfl, HJ.out, fun k hk h1 h2 => by
                by_cases e : k = j
                · subst e; rw [HRN.out]; exact HPF.out
                · have := HJ.out.chain hk (by omega)
                  rw [HWD.out] at this
                  exact HALL.out k hk (by omega) h2, B2⟩
              go_roundw
              case rel => first | exact HREL | (rw [hw32]; exact ⟨_, _, _, _, _, _, _, _, _, _, _, _, _, _, _, _, _, _, _, _, HREL, rfl⟩) | exact ⟨_, _, _, HREL, rfl⟩ | exact ⟨_, _, _, _, HREL, rfl⟩ | exact ⟨_, _, HREL, rfl⟩ | exact ⟨_, _, _, _, _, _, _, _, _, _, _, _, _, _, _, _, _, _, _, _, HREL, rfl⟩
              case measure => (simp [RowKit.intOf]; try omega)
          · have g4 : ((cut.size : Int) == (W0 : Int)) = false := beq_eq_false_iff_ne.2 (by omega)
            clear hwide q4 q3 hne hcw
            go_wp2_with (go_at_call 110; refine HD.out.mono ?_; rintro e w2 ⟨rfl, hB2⟩; have B2 : Below w.heap.size w w2 := B.trans (hB2.mono B.size))
            go_loopg [17] cut.size (fun g _ wx => ∃ pos : Nat, wx = w2.iter cut pos ∧ pos ≤ cut.size ∧ cut.size ≤ pos + g ∧ Hid ((tailStarts cut pos).any (isR cut R) = hasR cut R))
            case atStart => exact ⟨0, rfl, Nat.zero_le _, by omega, Lib.hid (by rw [tailStarts_zero]; rfl)⟩
            case round =>
              obtain ⟨pos, rfl, hp, hg, H⟩ := hrel
              have BI : Below w.heap.size w (w2.iter cut pos) := B2.alloc B2.size _
              by_cases hlt2 : pos < cut.size
              · have hnx := fun ty => run_next_any (P := Tryd.prog) w2 cut pos ty hlt2
                have hw2 := decode_w_le cut pos hlt2
                have hw1 := decode_width_pos cut pos hlt2
                have HSS := H.out
                rw [tailStarts_step cut pos hlt2, List.any_cons] at HSS
                obtain ⟨g', rfl⟩ : ∃ g', gk = g' + 1 := ⟨gk - 1, by omega⟩
                by_cases hrr : (Utf8.decode cut pos).1 = R
                · have hD : (((Utf8.decode cut pos).1 : Int) == ((R : Nat) : Int)) = true := beq_iff_eq.2 (by omega)
                  have hD2 : (((R : Nat) : Int) == ((Utf8.decode cut pos).1 : Int)) = true := beq_iff_eq.2 (by omega)
                  have HQ : Hid (hasR cut R = true) := Lib.hid (by rw [← HSS]; unfold isR; rw [hrr]; simp)
                  clear HSS hrr
                  have HP : Hid (LastIs (pOf cut) s.data.toList (j : Int)) := Lib.hid (.inr ⟨j, rfl, HJ.out, hjl, by rw [HRN.out]; exact (HPR.out.trans HQ.out), fun k hk h1 h2 => HALL.out k hk (by have := HJ.out.chain hk h1; rw [HWD.out] at this; omega) h2⟩)
                  go_wp2_with fail
                  go_ret
                  exact LaPost.ret HP.out (B2.alloc B2.size _)
                · have hD : (((Utf8.decode cut pos).1 : Int) == ((R : Nat) : Int)) = false := beq_eq_false_iff_ne.2 (by omega)
                  have hD2 : (((R : Nat) : Int) == ((Utf8.decode cut pos).1 : Int)) = false := beq_eq_false_iff_ne.2 (by omega)
                  have HN2 : Hid ((tailStarts cut (pos + (Utf8.decode cut pos).2)).any (isR cut R) = hasR cut R) := Lib.hid (by rw [← HSS]; unfold isR; rw [beq_eq_false_iff_ne.2 hrr, Bool.false_or])
                  clear HSS hrr
                  go_wp2_with fail
                  go_roundg g'
                  case measure => omega
                  case rel => exact ⟨_, rfl, hw2, by omega, HN2⟩
              · have hnx := fun ty => run_next_end (P := Tryd.prog) w2 cut pos ty hlt2
                have HQ : Hid (hasR cut R = false) := Lib.hid (by rw [← H.out, tailStarts_end cut pos hlt2]; rfl)
                go_wp2_with fail
                have HREL : LaRel w cut s (.int .i64 (j : Int)) _ := ⟨j, rfl, HJ.out, fun k hk h1 h2 => by
                  by_cases e : k = j
                  · subst e; rw [HRN.out]; exact (HPR.out.trans HQ.out)
                  · have := HJ.out.chain hk (by omega)
                    rw [HWD.out] at this
                    exact HALL.out k hk (by omega) h2, BI⟩
                go_roundw
                case rel => first | exact HREL | (rw [hw32]; exact ⟨_, _, _, _, _, _, _, _, _, _, _, _, _, _, _, _, _, _, _, _, HREL, rfl⟩) | exact ⟨_, _, _, HREL, rfl⟩ | exact ⟨_, _, _, _, HREL, rfl⟩ | exact ⟨_, _, HREL, rfl⟩ | exact ⟨_, _, _, _, _, _, _, _, _, _, _, _, _, _, _, _, _, _, _, _, HREL, rfl⟩
                case measure => (simp [RowKit.intOf]; try omega)
    · obtain rfl : i = 0 := by omega
      have HP : Hid (LastIs (pOf cut) s.data.toList (-1)) := Lib.hid (.inl ⟨rfl, fun k hk h => HALL.out k hk (Nat.zero_le _) h⟩)
      clear h0
      go_wp2_with fail
      go_ret
      exact LaPost.ret HP.out B
set_option maxHeartbeats 4000000 in
set_option maxRecDepth 1000000 in
theorem gBl_high (b1 o1 c1 : Nat) (s cut : ByteArray) (w : World) (hr : Row w b1 o1 s) (hcap : s.size ≤ c1) (hm : c1 ≤ maxLen) (hs : s.size ≤ 2147483647) (hc : cut.size < 4294967281) (hT : Utf8Tabs 2 3 w) (h3 : 0 < cut.size) (hs1 : s.size ≠ 1) (hn1 : cut.size ≠ 1) (h8 : 8 < s.size) (n0 : Nat) (hf : FirstHigh cut n0) :
    Calls Tryd.prog 66 #[.slice (some ⟨b1, o1, none⟩) s.size c1, .string cut] w (LaPost w s cut) := by
  have HT := Lib.hid hT
  have HR := Lib.hid hr
  have hv116 := gbZeroSet
  have hi116 := gbInfoSet
  have hsl : s.data.toList.length = s.size := (Lib.size_eq s).symm
  have mixed : Tryd.prog.follows Departure.mixedOrders = true := by kernel_rfl
  unfold maxLen at hm
  clear hT hr
  have hemp : cut.toList.isEmpty = false := by
    rw [Lib.toList_data]
    cases h : cut.data.toList with
    | nil => have := Lib.size_eq cut; rw [h, List.length_nil] at this; omega
    | cons _ _ => rfl
  have hne1 : ((s.size : Int) == 1) = false := beq_eq_false_iff_ne.2 (by omega)
  have hnc1 : ((cut.size : Int) == 1) = false := beq_eq_false_iff_ne.2 (by omega)
  have HU := Lib.hid (fun (W : World) => gbShould s.size W)
  rw [decide_eq_true h8] at HU
  have hM := Lib.hid (gbMakeSet_no cut n0 w hc hf)
  obtain ⟨C, hC⟩ : ∃ C, Lib.setCells (cut.data.toList.take n0) = C := ⟨_, rfl⟩
  have hsz := Lib.setCells_size (cut.data.toList.take n0)
  have hs1' := Lib.setCells_one (cut.data.toList.take n0)
  rw [hC] at hM hsz hs1'
  clear hC hf
  have hsc : (storeCells ⟨w.heap.size + 1, 0, none⟩ C.toList 0).run Tryd.prog ((w.alloc (.cells C 61)).alloc (.cells (Array.replicate 256 (.bool false)) 61)) = .ok () ((w.alloc (.cells C 61)).alloc (.cells C 61)) := by
    have := run_storeCells_new (P := Tryd.prog) (w.alloc (.cells C 61)) 61 (Array.replicate 256 (.bool false)) C (by rw [hsz]; exact hi116) (by rw [hsz, Array.size_replicate]) hs1'
    simpa using this
  have BA : Below w.heap.size w ((w.alloc (.cells C 61)).alloc (.cells C 61)) := ((Below.refl _ w).alloc (Nat.le_refl _) _).alloc (by simp) _
  have HS1 := Lib.hid hs1'
  clear hs1'
  go_enter Tryd.func66, Tryd.ntmps66
  go_wp2_with (first | (go_at_call 107; refine (HU.out _).mono ?_; rintro e w' ⟨rfl, hw⟩; rw [hw]) | (go_at_call 69; refine hM.out.mono ?_; rintro e w' ⟨rfl, hw⟩; rw [hw]))
  clear hsc
  obtain ⟨W1, hW1⟩ : ∃ W1, ((w.alloc (.cells C 61)).alloc (.cells C 61)) = W1 := ⟨_, rfl⟩
  rw [hW1] at BA ⊢
  clear hW1 hM
  go_loopw [13, 14, 15, 17] (fun v _ _ _ wr => LaRel w cut s v wr) (fun v _ _ _ _ => (RowKit.intOf v).toNat)
  case atStart => exact ⟨s.data.toList.length, by rw [← Lib.size_eq], St.len _, fun k hk h1 h2 => by omega, BA⟩
  case round =>
    obtain ⟨i, rfl, hst, hall, B⟩ := hrel
    have HALL := Lib.hid hall
    clear hall
    by_cases h0 : 0 < i
    · obtain ⟨m, rfl⟩ : ∃ m, i = m + 1 := ⟨i - 1, by omega⟩
      obtain ⟨j, hj, hjl, hji, hw⟩ := hst.pred h0
      have hlast := hj.last hjl
      rw [hw] at hlast
      obtain ⟨R, hR⟩ : ∃ R, rn s.data.toList j = R := ⟨_, rfl⟩
      obtain ⟨W0, hWd⟩ : ∃ W0, wd s.data.toList j = W0 := ⟨_, rfl⟩
      have hiz : m + 1 ≤ s.size := by have := hst.le; omega
      have hT1 : (s.extract 0 (m + 1)).size = m + 1 := by rw [ByteArray.size_extract]; omega
      have HD : Hid (Calls Tryd.prog 110 #[.slice (some ⟨b1, o1, none⟩) (m + 1) c1] wr fun e w' => e = .returned (.tuple #[.int .i32 (R : Int), .int .i64 (W0 : Int)]) ∧ Below wr.heap.size wr w') := Lib.hid (by
        have h := decLastRow (s.extract 0 (m + 1)) b1 o1 c1 wr (by omega) (fun j hj => rowAt (row_upto (HR.out.later B) (m + 1)) j hj) (by omega) (Utf8Tabs_below HT.out B)
        rw [hT1, Lib.extract_upto] at h
        rw [show (⟨(s.data.toList.take (m + 1)).toArray⟩ : ByteArray).data.toList = s.data.toList.take (m + 1) from rfl, hlast] at h
        rw [← hR, ← hWd]
        exact h)
      have hsc1 := rn_scal s.data.toList j
      have hwide : 128 ≤ (s.data.toList.getD j 0).toNat → rn s.data.toList j ≠ 65533 → 128 ≤ rn s.data.toList j ∧ rn s.data.toList j ≤ 1114111 ∧ (rn s.data.toList j < 55296 ∨ 57343 < rn s.data.toList j) ∧ wd s.data.toList j = (Utf8.encode (rn s.data.toList j : Int)).size := wide_enc hjl
      have hasc : (s.data.toList.getD j 0).toNat < 128 → R = (s.data.toList.getD j 0).toNat ∧ W0 = 1 := fun hb => by
        have hdl := decL_at s.data.toList j
        rw [decodeN_ascii _ _ _ _ _ hb] at hdl
        rw [← hR, ← hWd]
        unfold rn wd
        rw [hdl]
        exact ⟨rfl, rfl⟩
      have hwp := (wd_le s.data.toList j hjl).1
      rw [hWd] at hw hwp
      rw [hR, hWd] at hwide
      rw [hR] at hsc1
      have HRN := Lib.hid hR
      have HWD := Lib.hid hWd
      have HJ := Lib.hid hj
      have HST := Lib.hid hst
      clear hlast hT1 hj hst hR hWd
      have hms : m < s.size := by omega
      obtain ⟨x, hx⟩ : ∃ x, s[m]'hms = x := ⟨_, rfl⟩
      have hcell : wr.cell? ⟨b1, o1 + m, none⟩ = some (.int .u8 (x.toNat : Int)) := by rw [← hx]; exact (HR.out.later B) m hms
      have hgd : s.data.toList.getD m 0 = x := by rw [List.getD_eq_getElem?_getD, data_getElem? s m hms, hx]; rfl
      have hw32 : wrap32 (x.toNat : Int) = (x.toNat : Int) := by have := x.toNat_lt; unfold wrap32; omega
      have hmz : ((m : Int)).toNat = m := by omega
      have hmc : (m : Int) < ((m : Int) + 1) := by omega
      have hmp : (0 : Int) < ((m : Int) + 1) := by omega
      have d1 : (m : Int) + 1 ≤ (c1 : Int) := by omega
      have hlow : (s.data.toList.getD j 0).toNat < 128 ↔ x.toNat < 128 := by
        constructor
        · intro h
          have h2 := (hasc h).2
          have : j = m := by omega
          rw [← hgd, ← this]; exact h
        · intro h
          apply Nat.lt_of_not_le
          intro hge
          by_cases hw1 : W0 = 1
          · have : j = m := by omega
            rw [this, hgd] at hge
            omega
          · have hint := interior (l := s.data.toList) (i := j) (t := W0 - 1) (by omega) (by rw [HWD.out]; omega)
            rw [show j + (W0 - 1) = m by omega, hgd] at hint
            omega
      have e8 : IntKind.i64.wrap ((m : Int) + 1 - (W0 : Int)) = (j : Int) := by rw [IntKind.wrap_i64]; omega
      by_cases hb : x.toNat < 128
      · obtain ⟨hRx, hW1⟩ := hasc (hlow.2 hb)
        have hjm : j = m := by omega
        rw [hjm, hgd] at hRx
        have HIB := Lib.hid (ibStr cut x hb hc)
        have g1 : (x.toNat : Int) < 128 := by omega
        subst hjm
        have HRX := Lib.hid hRx
        clear hwide hasc hlow hgd hb e8 hRx
        cases hp : pOf cut x.toNat with
        | true =>
          have g2 : (0 : Int) ≤ irOf cut (x.toNat : Int) := of_decide_eq_true hp
          have HPT : Hid (pOf cut R = true) := Lib.hid (by rw [HRX.out]; exact hp)
          clear hp
          generalize irOf cut (x.toNat : Int) = V at g2 HIB
          have HP : Hid (LastIs (pOf cut) s.data.toList (j : Int)) := Lib.hid (.inr ⟨j, rfl, HJ.out, hjl, by rw [HRN.out]; exact HPT.out, fun k hk h1 h2 => HALL.out k hk (by have := HJ.out.chain hk h1; rw [HWD.out] at this; omega) h2⟩)
          go_wp2_with (go_at_call 105; refine (HIB.out _).mono ?_; rintro e w2 ⟨rfl, hw⟩; rw [hw])
          go_ret
          exact LaPost.ret HP.out B
        | false =>
          have g2 : irOf cut (x.toNat : Int) < 0 := by have h : ¬ (0 ≤ irOf cut (x.toNat : Int)) := of_decide_eq_false hp; omega
          have HPF : Hid (pOf cut R = false) := Lib.hid (by rw [HRX.out]; exact hp)
          clear hp
          generalize irOf cut (x.toNat : Int) = V at g2 HIB
          go_wp2_with (go_at_call 105; refine (HIB.out _).mono ?_; rintro e w2 ⟨rfl, hw⟩; rw [hw])
          have HREL : LaRel w cut s (.int .i64 (j : Int)) _ := ⟨j, rfl, HJ.out, fun k hk h1 h2 => by
            by_cases e : k = j
            · subst e; rw [HRN.out]; exact HPF.out
            · have := HJ.out.chain hk (by omega)
              rw [HWD.out] at this
              exact HALL.out k hk (by omega) h2, B⟩
          go_roundw
          case rel => first | exact HREL | (rw [hw32]; exact ⟨_, _, _, _, _, _, _, _, _, _, _, _, _, _, _, _, _, _, _, _, HREL, rfl⟩) | exact ⟨_, _, _, HREL, rfl⟩ | exact ⟨_, _, _, _, HREL, rfl⟩ | exact ⟨_, _, HREL, rfl⟩ | exact ⟨_, _, _, _, _, _, _, _, _, _, _, _, _, _, _, _, _, _, _, _, HREL, rfl⟩
          case measure => (simp [RowKit.intOf]; try omega)
      · have hwide := hwide (by have := fun h => hb (hlow.1 h); omega)
        have HPR := Lib.hid (pOf_has cut R hsc1)
        have g1 : ¬ (x.toNat : Int) < 128 := by omega
        have gz : ¬ ((W0 : Int) ≤ 0) := by omega
        clear hasc hlow hgd hsc1
        by_cases hne : R = 65533
        · have g3 : ((R : Int) == 65533) = true := beq_iff_eq.2 (by omega)
          clear hwide hne
          go_wp2_with (go_at_call 110; refine HD.out.mono ?_; rintro e w2 ⟨rfl, hB2⟩; have B2 : Below w.heap.size w w2 := B.trans (hB2.mono B.size))
          go_loopg [17] cut.size (fun g _ wx => ∃ pos : Nat, wx = w2.iter cut pos ∧ pos ≤ cut.size ∧ cut.size ≤ pos + g ∧ Hid ((tailStarts cut pos).any (isR cut R) = hasR cut R))
          case atStart => exact ⟨0, rfl, Nat.zero_le _, by omega, Lib.hid (by rw [tailStarts_zero]; rfl)⟩
          case round =>
            obtain ⟨pos, rfl, hp, hg, H⟩ := hrel
            have BI : Below w.heap.size w (w2.iter cut pos) := B2.alloc B2.size _
            by_cases hlt2 : pos < cut.size
            · have hnx := fun ty => run_next_any (P := Tryd.prog) w2 cut pos ty hlt2
              have hw2 := decode_w_le cut pos hlt2
              have hw1 := decode_width_pos cut pos hlt2
              have HSS := H.out
              rw [tailStarts_step cut pos hlt2, List.any_cons] at HSS
              obtain ⟨g', rfl⟩ : ∃ g', gk = g' + 1 := ⟨gk - 1, by omega⟩
              by_cases hrr : (Utf8.decode cut pos).1 = R
              · have hD : (((Utf8.decode cut pos).1 : Int) == ((R : Nat) : Int)) = true := beq_iff_eq.2 (by omega)
                have hD2 : (((R : Nat) : Int) == ((Utf8.decode cut pos).1 : Int)) = true := beq_iff_eq.2 (by omega)
                have HQ : Hid (hasR cut R = true) := Lib.hid (by rw [← HSS]; unfold isR; rw [hrr]; simp)
                clear HSS hrr
                have HP : Hid (LastIs (pOf cut) s.data.toList (j : Int)) := Lib.hid (.inr ⟨j, rfl, HJ.out, hjl, by rw [HRN.out]; exact (HPR.out.trans HQ.out), fun k hk h1 h2 => HALL.out k hk (by have := HJ.out.chain hk h1; rw [HWD.out] at this; omega) h2⟩)
                go_wp2_with fail
                go_ret
                exact LaPost.ret HP.out (B2.alloc B2.size _)
              · have hD : (((Utf8.decode cut pos).1 : Int) == ((R : Nat) : Int)) = false := beq_eq_false_iff_ne.2 (by omega)
                have hD2 : (((R : Nat) : Int) == ((Utf8.decode cut pos).1 : Int)) = false := beq_eq_false_iff_ne.2 (by omega)
                have HN2 : Hid ((tailStarts cut (pos + (Utf8.decode cut pos).2)).any (isR cut R) = hasR cut R) := Lib.hid (by rw [← HSS]; unfold isR; rw [beq_eq_false_iff_ne.2 hrr, Bool.false_or])
                clear HSS hrr
                go_wp2_with fail
                go_roundg g'
                case measure => omega
                case rel => exact ⟨_, rfl, hw2, by omega, HN2⟩
            · have hnx := fun ty => run_next_end (P := Tryd.prog) w2 cut pos ty hlt2
              have HQ : Hid (hasR cut R = false) := Lib.hid (by rw [← H.out, tailStarts_end cut pos hlt2]; rfl)
              go_wp2_with fail
              have HREL : LaRel w cut s (.int .i64 (j : Int)) _ := ⟨j, rfl, HJ.out, fun k hk h1 h2 => by
                by_cases e : k = j
                · subst e; rw [HRN.out]; exact (HPR.out.trans HQ.out)
                · have := HJ.out.chain hk (by omega)
                  rw [HWD.out] at this
                  exact HALL.out k hk (by omega) h2, BI⟩
              go_roundw
              case rel => first | exact HREL | (rw [hw32]; exact ⟨_, _, _, _, _, _, _, _, _, _, _, _, _, _, _, _, _, _, _, _, HREL, rfl⟩) | exact ⟨_, _, _, HREL, rfl⟩ | exact ⟨_, _, _, _, HREL, rfl⟩ | exact ⟨_, _, HREL, rfl⟩ | exact ⟨_, _, _, _, _, _, _, _, _, _, _, _, _, _, _, _, _, _, _, _, HREL, rfl⟩
              case measure => (simp [RowKit.intOf]; try omega)
        · have g3 : ((R : Int) == 65533) = false := beq_eq_false_iff_ne.2 (by omega)
          obtain ⟨q1, q2, q3, q4⟩ := hwide hne
          by_cases hcw : cut.size = W0
          · have heq := eq_enc q1 q2 q3 hne (hcw.trans q4)
            have g4 : ((cut.size : Int) == (W0 : Int)) = true := beq_iff_eq.2 (by omega)
            clear hwide q4 q3 hne hcw
            cases hp : pOf cut R with
            | true =>
              rw [hp] at heq
              have HPT := Lib.hid hp
              clear hp
              have HP : Hid (LastIs (pOf cut) s.data.toList (j : Int)) := Lib.hid (.inr ⟨j, rfl, HJ.out, hjl, by rw [HRN.out]; exact HPT.out, fun k hk h1 h2 => HALL.out k hk (by have := HJ.out.chain hk h1; rw [HWD.out] at this; omega) h2⟩)
              go_wp2_with (go_at_call 110; refine HD.out.mono ?_; rintro e w2 ⟨rfl, hB2⟩; have B2 : Below w.heap.size w w2 := B.trans (hB2.mono B.size))
              go_ret
              exact LaPost.ret HP.out B2
            | false =>
              rw [hp] at heq
              have HPF := Lib.hid hp
              clear hp
              go_wp2_with (go_at_call 110; refine HD.out.mono ?_; rintro e w2 ⟨rfl, hB2⟩; have B2 : Below w.heap.size w w2 := B.trans (hB2.mono B.size))
              have HREL : LaRel w cut s (.int .i64 (j : Int)) _ := ⟨j, rfl, HJ.out, fun k hk h1 h2 => by
                by_cases e : k = j
                · subst e; rw [HRN.out]; exact HPF.out
                · have := HJ.out.chain hk (by omega)
                  rw [HWD.out] at this
                  exact HALL.out k hk (by omega) h2, B2⟩
              go_roundw
              case rel => first | exact HREL | (rw [hw32]; exact ⟨_, _, _, _, _, _, _, _, _, _, _, _, _, _, _, _, _, _, _, _, HREL, rfl⟩) | exact ⟨_, _, _, HREL, rfl⟩ | exact ⟨_, _, _, _, HREL, rfl⟩ | exact ⟨_, _, HREL, rfl⟩ | exact ⟨_, _, _, _, _, _, _, _, _, _, _, _, _, _, _, _, _, _, _, _, HREL, rfl⟩
              case measure => (simp [RowKit.intOf]; try omega)
          · have g4 : ((cut.size : Int) == (W0 : Int)) = false := beq_eq_false_iff_ne.2 (by omega)
            clear hwide q4 q3 hne hcw
            go_wp2_with (go_at_call 110; refine HD.out.mono ?_; rintro e w2 ⟨rfl, hB2⟩; have B2 : Below w.heap.size w w2 := B.trans (hB2.mono B.size))
            go_loopg [17] cut.size (fun g _ wx => ∃ pos : Nat, wx = w2.iter cut pos ∧ pos ≤ cut.size ∧ cut.size ≤ pos + g ∧ Hid ((tailStarts cut pos).any (isR cut R) = hasR cut R))
            case atStart => exact ⟨0, rfl, Nat.zero_le _, by omega, Lib.hid (by rw [tailStarts_zero]; rfl)⟩
            case round =>
              obtain ⟨pos, rfl, hp, hg, H⟩ := hrel
              have BI : Below w.heap.size w (w2.iter cut pos) := B2.alloc B2.size _
              by_cases hlt2 : pos < cut.size
              · have hnx := fun ty => run_next_any (P := Tryd.prog) w2 cut pos ty hlt2
                have hw2 := decode_w_le cut pos hlt2
                have hw1 := decode_width_pos cut pos hlt2
                have HSS := H.out
                rw [tailStarts_step cut pos hlt2, List.any_cons] at HSS
                obtain ⟨g', rfl⟩ : ∃ g', gk = g' + 1 := ⟨gk - 1, by omega⟩
                by_cases hrr : (Utf8.decode cut pos).1 = R
                · have hD : (((Utf8.decode cut pos).1 : Int) == ((R : Nat) : Int)) = true := beq_iff_eq.2 (by omega)
                  have hD2 : (((R : Nat) : Int) == ((Utf8.decode cut pos).1 : Int)) = true := beq_iff_eq.2 (by omega)
                  have HQ : Hid (hasR cut R = true) := Lib.hid (by rw [← HSS]; unfold isR; rw [hrr]; simp)
                  clear HSS hrr
                  have HP : Hid (LastIs (pOf cut) s.data.toList (j : Int)) := Lib.hid (.inr ⟨j, rfl, HJ.out, hjl, by rw [HRN.out]; exact (HPR.out.trans HQ.out), fun k hk h1 h2 => HALL.out k hk (by have := HJ.out.chain hk h1; rw [HWD.out] at this; omega) h2⟩)
                  go_wp2_with fail
                  go_ret
                  exact LaPost.ret HP.out (B2.alloc B2.size _)
                · have hD : (((Utf8.decode cut pos).1 : Int) == ((R : Nat) : Int)) = false := beq_eq_false_iff_ne.2 (by omega)
                  have hD2 : (((R : Nat) : Int) == ((Utf8.decode cut pos).1 : Int)) = false := beq_eq_false_iff_ne.2 (by omega)
                  have HN2 : Hid ((tailStarts cut (pos + (Utf8.decode cut pos).2)).any (isR cut R) = hasR cut R) := Lib.hid (by rw [← HSS]; unfold isR; rw [beq_eq_false_iff_ne.2 hrr, Bool.false_or])
                  clear HSS hrr
                  go_wp2_with fail
                  go_roundg g'
                  case measure => omega
                  case rel => exact ⟨_, rfl, hw2, by omega, HN2⟩
              · have hnx := fun ty => run_next_end (P := Tryd.prog) w2 cut pos ty hlt2
                have HQ : Hid (hasR cut R = false) := Lib.hid (by rw [← H.out, tailStarts_end cut pos hlt2]; rfl)
                go_wp2_with fail
                have HREL : LaRel w cut s (.int .i64 (j : Int)) _ := ⟨j, rfl, HJ.out, fun k hk h1 h2 => by
                  by_cases e : k = j
                  · subst e; rw [HRN.out]; exact (HPR.out.trans HQ.out)
                  · have := HJ.out.chain hk (by omega)
                    rw [HWD.out] at this
                    exact HALL.out k hk (by omega) h2, BI⟩
                go_roundw
                case rel => first | exact HREL | (rw [hw32]; exact ⟨_, _, _, _, _, _, _, _, _, _, _, _, _, _, _, _, _, _, _, _, HREL, rfl⟩) | exact ⟨_, _, _, HREL, rfl⟩ | exact ⟨_, _, _, _, HREL, rfl⟩ | exact ⟨_, _, HREL, rfl⟩ | exact ⟨_, _, _, _, _, _, _, _, _, _, _, _, _, _, _, _, _, _, _, _, HREL, rfl⟩
                case measure => (simp [RowKit.intOf]; try omega)
    · obtain rfl : i = 0 := by omega
      have HP : Hid (LastIs (pOf cut) s.data.toList (-1)) := Lib.hid (.inl ⟨rfl, fun k hk h => HALL.out k hk (Nat.zero_le _) h⟩)
      clear h0
      go_wp2_with fail
      go_ret
      exact LaPost.ret HP.out B
theorem gLastIndexAnyB (b1 o1 c1 : Nat) (s cut : ByteArray) (w : World) (hr : Row w b1 o1 s) (hcap : s.size ≤ c1) (hm : c1 ≤ maxLen) (hs : s.size ≤ 2147483647) (hc : cut.size < 4294967281) (hT : Utf8Tabs 2 3 w) :
    Calls Tryd.prog 66 #[.slice (some ⟨b1, o1, none⟩) s.size c1, .string cut] w (LaPost w s cut) := by
  rcases pos_or cut with h3 | h3
  · exact gBl_nil b1 o1 c1 s cut w hr hcap hm hs hc hT h3
  by_cases hs1 : s.size = 1
  · exact gBl_one b1 o1 c1 s cut w hr hcap hm hs hc hT h3 hs1
  by_cases h8 : 8 < s.size
  · rcases high_or cut with ha | ⟨n0, hf⟩
    · exact gBl_set b1 o1 c1 s cut w hr hcap hm hs hc hT h3 h8 ha
    · by_cases hn1 : cut.size = 1
      · exact gBl_c1high b1 o1 c1 s cut w hr hcap hm hs hc hT h3 hs1 hn1 h8 n0 hf
      · exact gBl_high b1 o1 c1 s cut w hr hcap hm hs hc hT h3 hs1 hn1 h8 n0 hf
  · by_cases hn1 : cut.size = 1
    · exact gBl_c1low b1 o1 c1 s cut w hr hcap hm hs hc hT h3 hs1 hn1 h8
    · exact gBl_low b1 o1 c1 s cut w hr hcap hm hs hc hT h3 hs1 hn1 h8
end Go.Proofs.YthnbifkcbeldmaaDoor
