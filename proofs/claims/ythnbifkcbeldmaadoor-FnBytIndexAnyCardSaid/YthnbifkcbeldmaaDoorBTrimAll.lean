/- gobytes.Trim, TrimLeft, TrimRight over rows, at every cutset; impl's. -/
import Derived.Test.YthnbifkcbeldmaaDoorBTrimU
import Derived.Shelf.Bytes.SlSmallAll
namespace Go.Proofs.YthnbifkcbeldmaaDoor
open Go.Shelf Go.RowKit Go.Lib
set_option linter.unusedVariables false

theorem gbZeroSet : ∀ w, (zeroValue 61).run Tryd.prog w = .ok (.agg (Array.replicate 256 (.bool false))) w := fun w => by
  have h : (Tryd.prog.info? 61).map (·.zero) = some (some (.agg (Array.replicate 256 (.bool false)))) := by kernel_rfl
  obtain ⟨i, hi, hz⟩ := Option.map_eq_some_iff.1 h
  simp [zeroValue, typeInfo, hi, hz, Sem.run_bind]
theorem gbInfoSet : (Tryd.prog.info? 61).map (·.size) = some 256 := by kernel_rfl
set_option maxHeartbeats 8000000 in
set_option maxRecDepth 1000000 in
theorem gbMakeSet_no (chars : ByteArray) (n0 : Nat) (w : World) (hs : chars.size < 4294967281) (hf : FirstHigh chars n0) :
    Calls Tryd.prog 69 #[.string chars] w fun e w' => e = .returned (.tuple #[.agg (Lib.setCells (chars.data.toList.take n0)), .bool false]) ∧ w' = w.alloc (.cells (Lib.setCells (chars.data.toList.take n0)) 61) := by
  obtain ⟨y, hy, hy128, hlow⟩ := hf
  have hv116 := gbZeroSet
  have hi116 := gbInfoSet
  have hn0 : n0 < chars.size := by
    have := (List.getElem?_eq_some_iff.1 hy).1
    rw [← Lib.size_eq] at this
    exact this
  have HA : Aside (∀ (j : Nat) b, j < n0 → chars.data.toList[j]? = some b → b.toNat < 128) := hlow
  have HY : Aside (chars.data.toList[n0]? = some y) := hy
  clear hlow hy
  have mixed : Tryd.prog.follows Departure.mixedOrders = true := by kernel_rfl
  go_enter Tryd.func69, Tryd.ntmps69
  go_wp2
  rw [← Lib.setCells_nil]
  go_loopg [4] n0 (fun g s4 wx => ∃ i : Nat, i + g = n0 ∧ s4 = .int .i64 i ∧ wx = w.alloc (.cells (Lib.setCells (chars.data.toList.take i)) 61))
  case atStart => exact ⟨0, by omega, rfl, rfl⟩
  case round =>
    obtain ⟨i, hig, rfl, rfl⟩ := hrel
    cases gk with
    | zero =>
      obtain rfl : i = n0 := by omega
      have hiz : (i : Int) < (chars.size : Int) := by omega
      obtain ⟨x, hx⟩ : ∃ x : UInt8, chars[i]'hn0 = x := ⟨_, rfl⟩
      have hxy : x = y := by
        have h1 := Lib.data_getElem? chars i hn0
        rw [hx, HY.out] at h1
        exact (Option.some.inj h1).symm
      have hx128 : (128 : Int) ≤ (x.toNat : Int) := by rw [hxy]; omega
      have hld := run_loadVar_new (P := Tryd.prog) w 61 (Lib.setCells (chars.data.toList.take i)) 256 4 Tryd.underlying61 (by rw [Lib.setCells_size]; exact hi116)
      have hsz := Lib.setCells_size (chars.data.toList.take i)
      have hlc := run_loadCellsFrom_new (P := Tryd.prog) w 61 (Lib.setCells (chars.data.toList.take i)) 256 hsz
      have hsc := run_storeCells_new (P := Tryd.prog) w 61 (Lib.setCells (chars.data.toList.take i)) (Lib.setCells (chars.data.toList.take i)) (by rw [hsz]; exact hi116) rfl (Lib.setCells_one _)
      clear hxy
      go_wp2
      refine oper_load 61 (.tmp 2) rfl ⟨w.heap.size, 0, none⟩ rfl _ hld ?_
      go_wp2
      (try simp only [Exit.inBlock, Exit.then])
      refine bodyPost_ret (v := .tuple #[.agg (Lib.setCells (chars.data.toList.take i)), .bool false]) ?_ rfl ⟨rfl, rfl⟩
      rw [results_cell_tmp rfl]
      simp [asAddr, Result.andThen, hld]
    | succ g =>
      have hi : i < chars.size := by omega
      have hiz : (i : Int) < (chars.size : Int) := by omega
      obtain ⟨x, hx⟩ : ∃ x : UInt8, chars[i]'hi = x := ⟨_, rfl⟩
      have hxl : chars.data.toList[i]? = some x := by rw [← hx]; exact Lib.data_getElem? chars i hi
      have hx128 : ¬ ((128 : Int) ≤ (x.toNat : Int)) := by have := HA.out i x (by omega) hxl; omega
      have hx256 : (x.toNat : Int) < 256 := by have := HA.out i x (by omega) hxl; omega
      have hcell := Lib.setCells_at (chars.data.toList.take i) x
      have Hx : Aside (chars.data.toList[i]? = some x) := hxl
      clear hxl
      go_wp2
      go_roundg g
      case measure => omega
      case rel => exact ⟨i + 1, by omega, by first | rfl | simp, by rw [List.take_add_one, Hx.out]; simp only [Option.toList]; rw [Lib.setCells_snoc]⟩
theorem bytesAt_row {w : World} {b o : Nat} {s : ByteArray} (h : Row w b o s) : Lib.BytesAt w (some ⟨b, o, none⟩) s.size s.data.toList := fun hn => ⟨b, o, rfl, fun i hi => by
  rw [h i hi, List.getD_eq_getElem?_getD, data_getElem? s i hi]; rfl⟩
theorem leftV_ret {w w' : World} {b o c j : Nat} {s R : ByteArray} (hr : Row w' b o s) (hcap : s.size ≤ c) (hm : c ≤ maxLen) (hB : Below w.heap.size w w') (hj : j ≤ s.size) (hR : R = s.extract j s.size) : RetRow w R (.returned (Lib.leftV (some ⟨b, o, none⟩) s.size c j)) w' := by
  have hsz : (s.extract j s.size).size = s.size - j := by rw [ByteArray.size_extract]; omega
  unfold Lib.leftV
  by_cases h0 : j = s.size
  · rw [if_pos h0]
    exact retRow_nil (by rw [hR, hsz]; omega) hB
  · rw [if_neg h0]
    have h := row_sub hr hcap j s.size (Nat.le_refl _)
    unfold Lib.fromV
    by_cases hc : c = j
    · exact absurd hc (by omega)
    · rw [if_neg hc] at h
      rw [if_neg hc]
      show RetRow w R (.returned (.slice (some ((⟨b, o, none⟩ : Addr).add j)) (s.size - j) (c - j))) w'
      rw [show (⟨b, o, none⟩ : Addr).add j = ⟨b, o + j, none⟩ by simp [Addr.add]]
      exact retRow_of (n := s.size - j) (c := c - j) hR hsz (by omega) (Nat.le_trans (Nat.sub_le _ _) hm) h hB
theorem right_le (p : Nat → Bool) (l : List UInt8) : Right p l ≤ l.length := (Right_spec p l).1.le
theorem left_le (p : Nat → Bool) (l : List UInt8) : Left p l ≤ l.length := (Left_spec p l).1.le
theorem trimR_len (p : Nat → Bool) (l : List UInt8) : (trimR p l).length = Right p l := by
  rw [trimR, List.length_take]; exact Nat.min_eq_left (right_le p l)
theorem trimL_len (p : Nat → Bool) (l : List UInt8) : l.length - (trimL p l).length = Left p l := by
  rw [trimL, List.length_drop]; have := left_le p l; omega
set_option maxHeartbeats 8000000 in
set_option maxRecDepth 1000000 in
theorem gbTrimLeft_uni (b o c : Nat) (s cut : ByteArray) (n0 : Nat) (w : World) (hr : Row w b o s) (hcap : s.size ≤ c) (hm : c ≤ maxLen) (h0 : 0 < s.size) (hc : cut.size < 4294967281) (hf : FirstHigh cut n0) (hT : Utf8Tabs 2 3 w) :
    Calls Tryd.prog 45 #[.slice (some ⟨b, o, none⟩) s.size c, .string cut] w (RetRow w ⟨(trimL (pOf cut) s.data.toList).toArray⟩) := by
  have HT := Lib.hid hT
  have HRW := Lib.hid hr
  have hM := Lib.hid (gbMakeSet_no cut n0 w hc hf)
  have hv116 := gbZeroSet
  have hi116 := gbInfoSet
  have hcp : 0 < cut.size := by
    obtain ⟨x, hx, _⟩ := hf
    have := (List.getElem?_eq_some_iff.1 hx).1
    rw [← Lib.size_eq] at this
    omega
  have hone : cut.size = 1 → 128 ≤ (cut[0]'hcp).toNat := fun h1 => by
    obtain ⟨x, hx, hx2, _⟩ := hf
    have hlt := (List.getElem?_eq_some_iff.1 hx).1
    rw [← Lib.size_eq, h1] at hlt
    obtain rfl : n0 = 0 := by omega
    rw [Lib.data_getElem? cut 0 hcp] at hx
    rw [Option.some.inj hx]
    exact hx2
  obtain ⟨C, hC⟩ : ∃ C, Lib.setCells (cut.data.toList.take n0) = C := ⟨_, rfl⟩
  have hsz := Lib.setCells_size (cut.data.toList.take n0)
  have hs1 := Lib.setCells_one (cut.data.toList.take n0)
  rw [hC] at hM hsz hs1
  clear hC
  have hemp : cut.toList.isEmpty = false := by
    rw [Lib.toList_data]
    cases h : cut.data.toList with
    | nil => have := Lib.size_eq cut; rw [h, List.length_nil] at this; omega
    | cons _ _ => rfl
  have hn0 : ((s.size : Int) == 0) = false := beq_eq_false_iff_ne.2 (by omega)
  have hsc : (storeCells ⟨w.heap.size + 1, 0, none⟩ C.toList 0).run Tryd.prog ((w.alloc (.cells C 61)).alloc (.cells (Array.replicate 256 (.bool false)) 61)) = .ok () ((w.alloc (.cells C 61)).alloc (.cells C 61)) := by
    have := run_storeCells_new (P := Tryd.prog) (w.alloc (.cells C 61)) 61 (Array.replicate 256 (.bool false)) C (by rw [hsz]; exact hi116) (by rw [hsz, Array.size_replicate]) hs1
    simpa using this
  have BA : Below w.heap.size w ((w.alloc (.cells C 61)).alloc (.cells C 61)) := ((Below.refl _ w).alloc (Nat.le_refl _) _).alloc (by simp) _
  have HL : Hid (∀ W, Below w.heap.size w W → Calls Tryd.prog 71 #[.slice (some ⟨b, o, none⟩) s.size c, .string cut] W (RetRow w ⟨(trimL (pOf cut) s.data.toList).toArray⟩)) := Lib.hid (fun W hB => (gbTrimLeftUnicode b o c s cut W (HRW.out.later hB) hcap hm (Utf8Tabs_below HT.out hB)).mono fun e w' h => retRow_wide hB h)
  have mixed : Tryd.prog.follows Departure.mixedOrders = true := by kernel_rfl
  have HS1 := Lib.hid hs1
  clear hs1 hf hT hr
  by_cases h1 : cut.size = 1
  · have hn1 : ((cut.size : Int) == 1) = true := beq_iff_eq.2 (by omega)
    obtain ⟨x, hx⟩ : ∃ x, cut[0]'hcp = x := ⟨_, rfl⟩
    have hx2 := hone h1
    rw [hx] at hx2
    have hx3 : ¬ ((x.toNat : Int) < 128) := by omega
    have hcp2 : (0 : Int) < (cut.size : Int) := by omega
    clear hone h1
    go_enter Tryd.func45, Tryd.ntmps45
    go_wp2_with (go_at_call 69; refine hM.out.mono ?_; rintro e w' ⟨rfl, hw⟩; rw [hw])
    refine (HL.out _ BA).mono ?_
    rintro e w2 ⟨p2, cp2, rfl, q1, q2, q3, q4, q5⟩
    have Q := Lib.hid (And.intro q3 q4)
    clear q3 q4
    go_wp2
    go_ret
    exact ⟨p2, cp2, rfl, q1, q2, Q.out.1, Q.out.2, q5⟩
  · have hn1 : ((cut.size : Int) == 1) = false := beq_eq_false_iff_ne.2 (by omega)
    clear hone h1
    go_enter Tryd.func45, Tryd.ntmps45
    go_wp2_with (go_at_call 69; refine hM.out.mono ?_; rintro e w' ⟨rfl, hw⟩; rw [hw])
    refine (HL.out _ BA).mono ?_
    rintro e w2 ⟨p2, cp2, rfl, q1, q2, q3, q4, q5⟩
    have Q := Lib.hid (And.intro q3 q4)
    clear q3 q4
    go_wp2
    go_ret
    exact ⟨p2, cp2, rfl, q1, q2, Q.out.1, Q.out.2, q5⟩
set_option maxHeartbeats 8000000 in
set_option maxRecDepth 1000000 in
theorem gbTrimRight_uni (b o c : Nat) (s cut : ByteArray) (n0 : Nat) (w : World) (hr : Row w b o s) (hcap : s.size ≤ c) (hm : c ≤ maxLen) (h0 : 0 < s.size) (hc : cut.size < 4294967281) (hf : FirstHigh cut n0) (hT : Utf8Tabs 2 3 w) :
    Calls Tryd.prog 46 #[.slice (some ⟨b, o, none⟩) s.size c, .string cut] w (fun e w' => e = .returned (.slice (some ⟨b, o, none⟩) (Right (pOf cut) s.data.toList) c) ∧ Below w.heap.size w w') := by
  have HT := Lib.hid hT
  have HRW := Lib.hid hr
  have hM := Lib.hid (gbMakeSet_no cut n0 w hc hf)
  have hv116 := gbZeroSet
  have hi116 := gbInfoSet
  have hcp : 0 < cut.size := by
    obtain ⟨x, hx, _⟩ := hf
    have := (List.getElem?_eq_some_iff.1 hx).1
    rw [← Lib.size_eq] at this
    omega
  have hone : cut.size = 1 → 128 ≤ (cut[0]'hcp).toNat := fun h1 => by
    obtain ⟨x, hx, hx2, _⟩ := hf
    have hlt := (List.getElem?_eq_some_iff.1 hx).1
    rw [← Lib.size_eq, h1] at hlt
    obtain rfl : n0 = 0 := by omega
    rw [Lib.data_getElem? cut 0 hcp] at hx
    rw [Option.some.inj hx]
    exact hx2
  obtain ⟨C, hC⟩ : ∃ C, Lib.setCells (cut.data.toList.take n0) = C := ⟨_, rfl⟩
  have hsz := Lib.setCells_size (cut.data.toList.take n0)
  have hs1 := Lib.setCells_one (cut.data.toList.take n0)
  rw [hC] at hM hsz hs1
  clear hC
  have hemp : cut.toList.isEmpty = false := by
    rw [Lib.toList_data]
    cases h : cut.data.toList with
    | nil => have := Lib.size_eq cut; rw [h, List.length_nil] at this; omega
    | cons _ _ => rfl
  have hn0 : ((s.size : Int) == 0) = false := beq_eq_false_iff_ne.2 (by omega)
  have hsc : (storeCells ⟨w.heap.size + 1, 0, none⟩ C.toList 0).run Tryd.prog ((w.alloc (.cells C 61)).alloc (.cells (Array.replicate 256 (.bool false)) 61)) = .ok () ((w.alloc (.cells C 61)).alloc (.cells C 61)) := by
    have := run_storeCells_new (P := Tryd.prog) (w.alloc (.cells C 61)) 61 (Array.replicate 256 (.bool false)) C (by rw [hsz]; exact hi116) (by rw [hsz, Array.size_replicate]) hs1
    simpa using this
  have BA : Below w.heap.size w ((w.alloc (.cells C 61)).alloc (.cells C 61)) := ((Below.refl _ w).alloc (Nat.le_refl _) _).alloc (by simp) _
  have HR : Hid (∀ W, Below w.heap.size w W → Calls Tryd.prog 74 #[.slice (some ⟨b, o, none⟩) s.size c, .string cut] W fun e w' => e = .returned (.slice (some ⟨b, o, none⟩) (Right (pOf cut) s.data.toList) c) ∧ Below w.heap.size w w') := Lib.hid (fun W hB => (gbTrimRightUnicode b o c s cut W (HRW.out.later hB) hcap hm (Utf8Tabs_below HT.out hB)).mono fun e w' ⟨h1, h2⟩ => ⟨h1, hB.trans (h2.mono hB.size)⟩)
  have mixed : Tryd.prog.follows Departure.mixedOrders = true := by kernel_rfl
  have HS1 := Lib.hid hs1
  clear hs1 hf hT hr
  by_cases h1 : cut.size = 1
  · have hn1 : ((cut.size : Int) == 1) = true := beq_iff_eq.2 (by omega)
    obtain ⟨x, hx⟩ : ∃ x, cut[0]'hcp = x := ⟨_, rfl⟩
    have hx2 := hone h1
    rw [hx] at hx2
    have hx3 : ¬ ((x.toNat : Int) < 128) := by omega
    have hcp2 : (0 : Int) < (cut.size : Int) := by omega
    clear hone h1
    go_enter Tryd.func46, Tryd.ntmps46
    go_wp2_with (go_at_call 69; refine hM.out.mono ?_; rintro e w' ⟨rfl, hw⟩; rw [hw])
    refine (HR.out _ BA).mono ?_
    rintro e w2 ⟨rfl, B2⟩
    go_wp2
    go_ret
    exact ⟨rfl, B2⟩
  · have hn1 : ((cut.size : Int) == 1) = false := beq_eq_false_iff_ne.2 (by omega)
    clear hone h1
    go_enter Tryd.func46, Tryd.ntmps46
    go_wp2_with (go_at_call 69; refine hM.out.mono ?_; rintro e w' ⟨rfl, hw⟩; rw [hw])
    refine (HR.out _ BA).mono ?_
    rintro e w2 ⟨rfl, B2⟩
    go_wp2
    go_ret
    exact ⟨rfl, B2⟩
set_option maxHeartbeats 8000000 in
set_option maxRecDepth 1000000 in
theorem gbTrim_uni (b o c : Nat) (s cut : ByteArray) (n0 : Nat) (w : World) (hr : Row w b o s) (hcap : s.size ≤ c) (hm : c ≤ maxLen) (h0 : 0 < s.size) (hc : cut.size < 4294967281) (hf : FirstHigh cut n0) (hT : Utf8Tabs 2 3 w) :
    Calls Tryd.prog 47 #[.slice (some ⟨b, o, none⟩) s.size c, .string cut] w (RetRow w ⟨(trimB (pOf cut) s.data.toList).toArray⟩) := by
  have HT := Lib.hid hT
  have HRW := Lib.hid hr
  have hM := Lib.hid (gbMakeSet_no cut n0 w hc hf)
  have hv116 := gbZeroSet
  have hi116 := gbInfoSet
  have hcp : 0 < cut.size := by
    obtain ⟨x, hx, _⟩ := hf
    have := (List.getElem?_eq_some_iff.1 hx).1
    rw [← Lib.size_eq] at this
    omega
  have hone : cut.size = 1 → 128 ≤ (cut[0]'hcp).toNat := fun h1 => by
    obtain ⟨x, hx, hx2, _⟩ := hf
    have hlt := (List.getElem?_eq_some_iff.1 hx).1
    rw [← Lib.size_eq, h1] at hlt
    obtain rfl : n0 = 0 := by omega
    rw [Lib.data_getElem? cut 0 hcp] at hx
    rw [Option.some.inj hx]
    exact hx2
  obtain ⟨C, hC⟩ : ∃ C, Lib.setCells (cut.data.toList.take n0) = C := ⟨_, rfl⟩
  have hsz := Lib.setCells_size (cut.data.toList.take n0)
  have hs1 := Lib.setCells_one (cut.data.toList.take n0)
  rw [hC] at hM hsz hs1
  clear hC
  have hemp : cut.toList.isEmpty = false := by
    rw [Lib.toList_data]
    cases h : cut.data.toList with
    | nil => have := Lib.size_eq cut; rw [h, List.length_nil] at this; omega
    | cons _ _ => rfl
  have hn0 : ((s.size : Int) == 0) = false := beq_eq_false_iff_ne.2 (by omega)
  have hsc : (storeCells ⟨w.heap.size + 1, 0, none⟩ C.toList 0).run Tryd.prog ((w.alloc (.cells C 61)).alloc (.cells (Array.replicate 256 (.bool false)) 61)) = .ok () ((w.alloc (.cells C 61)).alloc (.cells C 61)) := by
    have := run_storeCells_new (P := Tryd.prog) (w.alloc (.cells C 61)) 61 (Array.replicate 256 (.bool false)) C (by rw [hsz]; exact hi116) (by rw [hsz, Array.size_replicate]) hs1
    simpa using this
  have BA : Below w.heap.size w ((w.alloc (.cells C 61)).alloc (.cells C 61)) := ((Below.refl _ w).alloc (Nat.le_refl _) _).alloc (by simp) _
  have HR : Hid (∀ W, Below w.heap.size w W → Calls Tryd.prog 74 #[.slice (some ⟨b, o, none⟩) s.size c, .string cut] W fun e w' => e = .returned (.slice (some ⟨b, o, none⟩) (Right (pOf cut) s.data.toList) c) ∧ Below w.heap.size w w') := Lib.hid (fun W hB => (gbTrimRightUnicode b o c s cut W (HRW.out.later hB) hcap hm (Utf8Tabs_below HT.out hB)).mono fun e w' ⟨h1, h2⟩ => ⟨h1, hB.trans (h2.mono hB.size)⟩)
  have HL : Hid (∀ W, Below w.heap.size w W → Calls Tryd.prog 71 #[.slice (some ⟨b, o, none⟩) (Right (pOf cut) s.data.toList) c, .string cut] W (RetRow w ⟨(trimB (pOf cut) s.data.toList).toArray⟩)) := Lib.hid (fun W hB => by
    have hle := right_le (pOf cut) s.data.toList
    rw [← Lib.size_eq] at hle
    have hT1 : (s.extract 0 (Right (pOf cut) s.data.toList)).size = Right (pOf cut) s.data.toList := by rw [ByteArray.size_extract]; omega
    have h := gbTrimLeftUnicode b o c (s.extract 0 (Right (pOf cut) s.data.toList)) cut W (row_upto (HRW.out.later hB) _) (by omega) hm (Utf8Tabs_below HT.out hB)
    rw [hT1, Lib.extract_upto] at h
    exact h.mono fun e w' h => retRow_wide hB h)
  have mixed : Tryd.prog.follows Departure.mixedOrders = true := by kernel_rfl
  have HS1 := Lib.hid hs1
  clear hs1 hf hT hr
  by_cases h1 : cut.size = 1
  · have hn1 : ((cut.size : Int) == 1) = true := beq_iff_eq.2 (by omega)
    obtain ⟨x, hx⟩ : ∃ x, cut[0]'hcp = x := ⟨_, rfl⟩
    have hx2 := hone h1
    rw [hx] at hx2
    have hx3 : ¬ ((x.toNat : Int) < 128) := by omega
    have hcp2 : (0 : Int) < (cut.size : Int) := by omega
    clear hone h1
    go_enter Tryd.func47, Tryd.ntmps47
    go_wp2_with (go_at_call 69; refine hM.out.mono ?_; rintro e w' ⟨rfl, hw⟩; rw [hw])
    refine (HR.out _ BA).mono ?_
    rintro e w2 ⟨rfl, B2⟩
    go_wp2_with (go_at_call 71; refine (HL.out _ B2).mono ?_; rintro e w3 ⟨p2, cp2, rfl, q1, q2, q3, q4, q5⟩; have Q := Lib.hid (And.intro q3 q4); clear q3 q4)
    go_ret
    exact ⟨p2, cp2, rfl, q1, q2, Q.out.1, Q.out.2, q5⟩
  · have hn1 : ((cut.size : Int) == 1) = false := beq_eq_false_iff_ne.2 (by omega)
    clear hone h1
    go_enter Tryd.func47, Tryd.ntmps47
    go_wp2_with (go_at_call 69; refine hM.out.mono ?_; rintro e w' ⟨rfl, hw⟩; rw [hw])
    refine (HR.out _ BA).mono ?_
    rintro e w2 ⟨rfl, B2⟩
    go_wp2_with (go_at_call 71; refine (HL.out _ B2).mono ?_; rintro e w3 ⟨p2, cp2, rfl, q1, q2, q3, q4, q5⟩; have Q := Lib.hid (And.intro q3 q4); clear q3 q4)
    go_ret
    exact ⟨p2, cp2, rfl, q1, q2, Q.out.1, Q.out.2, q5⟩
theorem nil_data {s : ByteArray} (h : s.size = 0) : s.data.toList = [] := List.eq_nil_of_length_eq_zero (by rw [← Lib.size_eq]; exact h)
theorem gbTrimLeft (b o c : Nat) (s cut : ByteArray) (w : World) (hr : Row w b o s) (hcap : s.size ≤ c) (hm : c ≤ maxLen) (hc : cut.size < 4294967281) (hT : Utf8Tabs 2 3 w) :
    Calls Tryd.prog 45 #[.slice (some ⟨b, o, none⟩) s.size c, .string cut] w (RetRow w ⟨(trimL (pOf cut) s.data.toList).toArray⟩) := by
  have hm2 : c ≤ 9223372036854775807 := by unfold maxLen at hm; omega
  rcases high_or cut with ha | ⟨n0, hf⟩
  · have hmem := ascii_mem ha
    refine (bytes_TrimLeft_ascii gbZeroSet gbInfoSet (some ⟨b, o, none⟩) s.size c s.data.toList cut w (Lib.size_eq s).symm hcap hm2 (bytesAt_row hr) hc ha).mono fun e w' ⟨h1, h2⟩ => ?_
    rw [h1, trimL_set (pOf_ascii hmem) hmem]
    have e := trimL_len (pOf cut) s.data.toList
    rw [← Lib.size_eq] at e
    rw [e]
    have hle := left_le (pOf cut) s.data.toList
    rw [← Lib.size_eq] at hle
    exact leftV_ret (hr.later h2) hcap hm h2 hle (by rw [trimL, mk_drop])
  · by_cases h0 : s.size = 0
    · have hl := nil_data h0
      rw [hl, (trim_empty _).1, h0]
      exact (bytes_TrimLeft_none (some ⟨b, o, none⟩) c cut w).mono fun e w' ⟨h1, h2⟩ => by rw [h1, h2]; exact retRow_nil rfl (Below.refl _ _)
    · exact gbTrimLeft_uni b o c s cut n0 w hr hcap hm (by omega) hc hf hT
theorem gbTrimRight (b o c : Nat) (s cut : ByteArray) (w : World) (hr : Row w b o s) (hcap : s.size ≤ c) (hm : c ≤ maxLen) (hc : cut.size < 4294967281) (hT : Utf8Tabs 2 3 w) :
    Calls Tryd.prog 46 #[.slice (some ⟨b, o, none⟩) s.size c, .string cut] w (RetRow w ⟨(trimR (pOf cut) s.data.toList).toArray⟩) := by
  have hm2 : c ≤ 9223372036854775807 := by unfold maxLen at hm; omega
  have hle := right_le (pOf cut) s.data.toList
  rw [← Lib.size_eq] at hle
  have key : Calls Tryd.prog 46 #[.slice (some ⟨b, o, none⟩) s.size c, .string cut] w fun e w' => e = .returned (.slice (some ⟨b, o, none⟩) (Right (pOf cut) s.data.toList) c) ∧ Below w.heap.size w w' := by
    rcases high_or cut with ha | ⟨n0, hf⟩
    · have hmem := ascii_mem ha
      refine (bytes_TrimRight_ascii gbZeroSet gbInfoSet (some ⟨b, o, none⟩) s.size c s.data.toList cut w (Lib.size_eq s).symm hcap hm2 (bytesAt_row hr) hc ha).mono fun e w' ⟨h1, h2⟩ => ⟨?_, h2⟩
      rw [h1, trimR_set (pOf_ascii hmem) hmem, trimR_len]
    · by_cases h0 : s.size = 0
      · have hR : Right (pOf cut) s.data.toList = 0 := by omega
        rw [hR, h0]
        exact (bytes_TrimRight_empty (some ⟨b, o, none⟩) 0 c cut w (.inl rfl)).mono fun e w' ⟨h1, h2⟩ => ⟨h1, h2 ▸ Below.refl _ _⟩
      · exact gbTrimRight_uni b o c s cut n0 w hr hcap hm (by omega) hc hf hT
  refine key.mono fun e w' ⟨h1, h2⟩ => ?_
  rw [h1]
  exact retRow_of (t := s.extract 0 (Right (pOf cut) s.data.toList)) (by rw [trimR, Lib.extract_upto]) (by rw [ByteArray.size_extract]; omega) (by omega) hm (row_upto (hr.later h2) _) h2
theorem gbTrim (b o c : Nat) (s cut : ByteArray) (w : World) (hr : Row w b o s) (hcap : s.size ≤ c) (hm : c ≤ maxLen) (hc : cut.size < 4294967281) (hT : Utf8Tabs 2 3 w) :
    Calls Tryd.prog 47 #[.slice (some ⟨b, o, none⟩) s.size c, .string cut] w (RetRow w ⟨(trimB (pOf cut) s.data.toList).toArray⟩) := by
  have hm2 : c ≤ 9223372036854775807 := by unfold maxLen at hm; omega
  have hle := right_le (pOf cut) s.data.toList
  rw [← Lib.size_eq] at hle
  rcases high_or cut with ha | ⟨n0, hf⟩
  · have hmem := ascii_mem ha
    refine (bytes_Trim_ascii gbZeroSet gbInfoSet (some ⟨b, o, none⟩) s.size c s.data.toList cut w (Lib.size_eq s).symm hcap hm2 (bytesAt_row hr) hc ha).mono fun e w' ⟨h1, h2⟩ => ?_
    rw [h1, trimR_set (pOf_ascii hmem) hmem, trimS_set (pOf_ascii hmem) hmem, trimR_len]
    have hT1 : (s.extract 0 (Right (pOf cut) s.data.toList)).size = Right (pOf cut) s.data.toList := by rw [ByteArray.size_extract]; omega
    have hTd : (s.extract 0 (Right (pOf cut) s.data.toList)).data.toList = trimR (pOf cut) s.data.toList := by rw [Lib.extract_upto]; rfl
    have e := trimL_len (pOf cut) (trimR (pOf cut) s.data.toList)
    rw [trimR_len] at e
    rw [show (trimB (pOf cut) s.data.toList) = trimL (pOf cut) (trimR (pOf cut) s.data.toList) from rfl, e]
    have hle2 := left_le (pOf cut) (trimR (pOf cut) s.data.toList)
    rw [trimR_len] at hle2
    have h := leftV_ret (w := w) (R := ⟨(trimL (pOf cut) (trimR (pOf cut) s.data.toList)).toArray⟩) (row_upto (hr.later h2) (Right (pOf cut) s.data.toList)) (by omega) hm h2 (j := Left (pOf cut) (trimR (pOf cut) s.data.toList)) (by omega) (by rw [← mk_drop, hTd]; rfl)
    rw [hT1] at h
    exact h
  · by_cases h0 : s.size = 0
    · have hl := nil_data h0
      rw [hl, (trim_empty _).2.2, h0]
      exact (bytes_Trim_none (some ⟨b, o, none⟩) c cut w).mono fun e w' ⟨h1, h2⟩ => by rw [h1, h2]; exact retRow_nil rfl (Below.refl _ _)
    · exact gbTrim_uni b o c s cut n0 w hr hcap hm (by omega) hc hf hT
end Go.Proofs.YthnbifkcbeldmaaDoor
