/- gostrings.Trim, TrimLeft, TrimRight at every cutset, joined; the law FnTrimTwice. -/
import Derived.Test.YthnbifkcbeldmaaDoorTrimU
namespace Go.Proofs.YthnbifkcbeldmaaDoor
open Go.Shelf Go.RowKit Go.Lib
set_option linter.unusedVariables false

theorem zeroSet : ∀ w, (zeroValue 68).run Tryd.prog w = .ok (.agg (Array.replicate 256 (.bool false))) w := fun w => by
  have h : (Tryd.prog.info? 68).map (·.zero) = some (some (.agg (Array.replicate 256 (.bool false)))) := by kernel_rfl
  obtain ⟨i, hi, hz⟩ := Option.map_eq_some_iff.1 h
  simp [zeroValue, typeInfo, hi, hz, Sem.run_bind]
theorem infoSet : (Tryd.prog.info? 68).map (·.size) = some 256 := by kernel_rfl
/-- where the first byte stands that is not ASCII -/
def FirstHigh (cut : ByteArray) (n0 : Nat) : Prop := ∃ x, cut.data.toList[n0]? = some x ∧ 128 ≤ x.toNat ∧ ∀ (j : Nat) b, j < n0 → cut.data.toList[j]? = some b → b.toNat < 128
theorem high_or (cut : ByteArray) : (∀ (j : Nat) b, cut.data.toList[j]? = some b → b.toNat < 128) ∨ ∃ n0, FirstHigh cut n0 := by
  have key : ∀ k, (∀ (j : Nat) b, j < k → cut.data.toList[j]? = some b → b.toNat < 128) ∨ ∃ n0, FirstHigh cut n0 := by
    intro k
    induction k with
    | zero => exact .inl fun j b h => absurd h (Nat.not_lt_zero _)
    | succ k ih =>
      rcases ih with ih | ih
      · cases hk : cut.data.toList[k]? with
        | none =>
          refine .inl (fun j b h hb => ?_)
          by_cases e : j = k
          · subst e; rw [hk] at hb; cases hb
          · exact ih j b (by omega) hb
        | some x =>
          by_cases hx : x.toNat < 128
          · refine .inl (fun j b h hb => ?_)
            by_cases e : j = k
            · subst e; rw [hk] at hb; cases hb; exact hx
            · exact ih j b (by omega) hb
          · exact .inr ⟨k, x, hk, by omega, ih⟩
      · exact .inr ih
  rcases key cut.data.toList.length with h | h
  · exact .inl fun j b hb => h j b (List.getElem?_eq_some_iff.1 hb).1 hb
  · exact .inr h
set_option maxHeartbeats 8000000 in
set_option maxRecDepth 1000000 in
theorem makeSet_no (chars : ByteArray) (n0 : Nat) (w : World) (hs : chars.size < 4294967281) (hf : FirstHigh chars n0) :
    Calls Tryd.prog 77 #[.string chars] w fun e w' => e = .returned (.tuple #[.agg (Lib.setCells (chars.data.toList.take n0)), .bool false]) ∧ w' = w.alloc (.cells (Lib.setCells (chars.data.toList.take n0)) 68) := by
  obtain ⟨y, hy, hy128, hlow⟩ := hf
  have hv116 := zeroSet
  have hi116 := infoSet
  have hn0 : n0 < chars.size := by
    have := (List.getElem?_eq_some_iff.1 hy).1
    rw [← Lib.size_eq] at this
    exact this
  have HA : Aside (∀ (j : Nat) b, j < n0 → chars.data.toList[j]? = some b → b.toNat < 128) := hlow
  have HY : Aside (chars.data.toList[n0]? = some y) := hy
  clear hlow hy
  have mixed : Tryd.prog.follows Departure.mixedOrders = true := by kernel_rfl
  go_enter Tryd.func77, Tryd.ntmps77
  go_wp2
  rw [← Lib.setCells_nil]
  go_loopg [4] n0 (fun g s4 wx => ∃ i : Nat, i + g = n0 ∧ s4 = .int .i64 i ∧ wx = w.alloc (.cells (Lib.setCells (chars.data.toList.take i)) 68))
  case atStart => exact ⟨0, by omega, rfl, rfl⟩
  case round =>
    obtain ⟨i, hig, rfl, rfl⟩ := hrel
    cases gk with
    | zero =>
      obtain rfl : i = n0 := by omega
      have hiz : (i : Int) < (chars.size : Int) := by omega
      obtain ⟨x, hx⟩ : ∃ x : UInt8, chars[i]'hn0 = x := ⟨_, rfl⟩
      have hxy : x = y := by
        have h1 := Lib.data_getElem? chars i hn0
        rw [hx, HY.out] at h1
        exact (Option.some.inj h1).symm
      have hx128 : (128 : Int) ≤ (x.toNat : Int) := by rw [hxy]; omega
      have hld := run_loadVar_new (P := Tryd.prog) w 68 (Lib.setCells (chars.data.toList.take i)) 256 4 Tryd.underlying68 (by rw [Lib.setCells_size]; exact hi116)
      have hsz := Lib.setCells_size (chars.data.toList.take i)
      have hlc := run_loadCellsFrom_new (P := Tryd.prog) w 68 (Lib.setCells (chars.data.toList.take i)) 256 hsz
      have hsc := run_storeCells_new (P := Tryd.prog) w 68 (Lib.setCells (chars.data.toList.take i)) (Lib.setCells (chars.data.toList.take i)) (by rw [hsz]; exact hi116) rfl (Lib.setCells_one _)
      clear hxy
      go_wp2
      refine oper_load 68 (.tmp 2) rfl ⟨w.heap.size, 0, none⟩ rfl _ hld ?_
      go_wp2
      (try simp only [Exit.inBlock, Exit.then])
      refine bodyPost_ret (v := .tuple #[.agg (Lib.setCells (chars.data.toList.take i)), .bool false]) ?_ rfl ⟨rfl, rfl⟩
      rw [results_cell_tmp rfl]
      simp [asAddr, Result.andThen, hld]
    | succ g =>
      have hi : i < chars.size := by omega
      have hiz : (i : Int) < (chars.size : Int) := by omega
      obtain ⟨x, hx⟩ : ∃ x : UInt8, chars[i]'hi = x := ⟨_, rfl⟩
      have hxl : chars.data.toList[i]? = some x := by rw [← hx]; exact Lib.data_getElem? chars i hi
      have hx128 : ¬ ((128 : Int) ≤ (x.toNat : Int)) := by have := HA.out i x (by omega) hxl; omega
      have hx256 : (x.toNat : Int) < 256 := by have := HA.out i x (by omega) hxl; omega
      have hcell := Lib.setCells_at (chars.data.toList.take i) x
      have Hx : Aside (chars.data.toList[i]? = some x) := hxl
      clear hxl
      go_wp2
      go_roundg g
      case measure => omega
      case rel => exact ⟨i + 1, by omega, by first | rfl | simp, by rw [List.take_add_one, Hx.out]; simp only [Option.toList]; rw [Lib.setCells_snoc]⟩
set_option maxHeartbeats 8000000 in
set_option maxRecDepth 1000000 in
theorem TrimLeft_uni (s cut : ByteArray) (n0 : Nat) (w : World) (h0 : 0 < s.size) (hs : s.size ≤ 9223372036854775807) (hc : cut.size < 4294967281) (hf : FirstHigh cut n0) (hT : Utf8Tabs 2 3 w) :
    Calls Tryd.prog 58 #[.string s, .string cut] w fun e w' => e = .returned (.string ⟨(trimL (pOf cut) s.data.toList).toArray⟩) ∧ Below w.heap.size w w' := by
  have HT := Lib.hid hT
  have hM := Lib.hid (makeSet_no cut n0 w hc hf)
  have hv116 := zeroSet
  have hi116 := infoSet
  have hcp : 0 < cut.size := by
    obtain ⟨x, hx, _⟩ := hf
    have := (List.getElem?_eq_some_iff.1 hx).1
    rw [← Lib.size_eq] at this
    omega
  have hone : cut.size = 1 → 128 ≤ (cut[0]'hcp).toNat := fun h1 => by
    obtain ⟨x, hx, hx2, _⟩ := hf
    have hlt := (List.getElem?_eq_some_iff.1 hx).1
    rw [← Lib.size_eq, h1] at hlt
    obtain rfl : n0 = 0 := by omega
    rw [Lib.data_getElem? cut 0 hcp] at hx
    rw [Option.some.inj hx]
    exact hx2
  clear hf hT
  obtain ⟨C, hC⟩ : ∃ C, Lib.setCells (cut.data.toList.take n0) = C := ⟨_, rfl⟩
  have hsz := Lib.setCells_size (cut.data.toList.take n0)
  have hs1 := Lib.setCells_one (cut.data.toList.take n0)
  rw [hC] at hM hsz hs1
  clear hC
  have hemp : cut.toList.isEmpty = false := by
    rw [Lib.toList_data]
    cases h : cut.data.toList with
    | nil => have := Lib.size_eq cut; rw [h, List.length_nil] at this; omega
    | cons _ _ => rfl
  have hemps : s.toList.isEmpty = false := by
    rw [Lib.toList_data]
    cases h : s.data.toList with
    | nil => have := Lib.size_eq s; rw [h, List.length_nil] at this; omega
    | cons _ _ => rfl
  have hsc : (storeCells ⟨w.heap.size + 1, 0, none⟩ C.toList 0).run Tryd.prog ((w.alloc (.cells C 68)).alloc (.cells (Array.replicate 256 (.bool false)) 68)) = .ok () ((w.alloc (.cells C 68)).alloc (.cells C 68)) := by
    have := run_storeCells_new (P := Tryd.prog) (w.alloc (.cells C 68)) 68 (Array.replicate 256 (.bool false)) C (by rw [hsz]; exact hi116) (by rw [hsz, Array.size_replicate]) hs1
    simpa using this
  have BA : Below w.heap.size w ((w.alloc (.cells C 68)).alloc (.cells C 68)) := ((Below.refl _ w).alloc (Nat.le_refl _) _).alloc (by simp) _
  have HL : Hid (∀ (t : ByteArray) W, t.size ≤ s.size → Below w.heap.size w W → Calls Tryd.prog 97 #[.string t, .string cut] W fun e w' => e = .returned (.string ⟨(trimL (pOf cut) t.data.toList).toArray⟩) ∧ Below w.heap.size w w') := Lib.hid (fun t W ht hB => (trimLeftUnicode t cut W (by omega) hc (Utf8Tabs_below HT.out hB)).mono fun e w' ⟨h1, h2⟩ => ⟨h1, hB.trans (h2.mono hB.size)⟩)
  have HR : Hid (∀ (t : ByteArray) W, t.size ≤ s.size → Below w.heap.size w W → Calls Tryd.prog 100 #[.string t, .string cut] W fun e w' => e = .returned (.string ⟨(trimR (pOf cut) t.data.toList).toArray⟩) ∧ Below w.heap.size w w') := Lib.hid (fun t W ht hB => (trimRightUnicode t cut W (by omega) hc (Utf8Tabs_below HT.out hB)).mono fun e w' ⟨h1, h2⟩ => ⟨h1, hB.trans (h2.mono hB.size)⟩)
  have mixed : Tryd.prog.follows Departure.mixedOrders = true := by kernel_rfl
  have HS1 := Lib.hid hs1
  clear hs1
  by_cases h1 : cut.size = 1
  · have hn1 : ((cut.size : Int) == 1) = true := beq_iff_eq.2 (by omega)
    obtain ⟨x, hx⟩ : ∃ x, cut[0]'hcp = x := ⟨_, rfl⟩
    have hx2 := hone h1
    rw [hx] at hx2
    have hx3 : ¬ ((x.toNat : Int) < 128) := by omega
    have hcp2 : (0 : Int) < (cut.size : Int) := by omega
    clear hone h1
    go_enter Tryd.func58, Tryd.ntmps58
    go_wp2_with (go_at_call 77; refine hM.out.mono ?_; rintro e w' ⟨rfl, hw⟩; rw [hw])
    refine (HL.out s _ (Nat.le_refl _) BA).mono ?_
    rintro e w2 ⟨rfl, B2⟩
    go_wp2
    go_ret
    exact ⟨rfl, B2⟩
  · have hn1 : ((cut.size : Int) == 1) = false := beq_eq_false_iff_ne.2 (by omega)
    clear hone h1
    go_enter Tryd.func58, Tryd.ntmps58
    go_wp2_with (go_at_call 77; refine hM.out.mono ?_; rintro e w' ⟨rfl, hw⟩; rw [hw])
    refine (HL.out s _ (Nat.le_refl _) BA).mono ?_
    rintro e w2 ⟨rfl, B2⟩
    go_wp2
    go_ret
    exact ⟨rfl, B2⟩
set_option maxHeartbeats 8000000 in
set_option maxRecDepth 1000000 in
theorem TrimRight_uni (s cut : ByteArray) (n0 : Nat) (w : World) (h0 : 0 < s.size) (hs : s.size ≤ 9223372036854775807) (hc : cut.size < 4294967281) (hf : FirstHigh cut n0) (hT : Utf8Tabs 2 3 w) :
    Calls Tryd.prog 59 #[.string s, .string cut] w fun e w' => e = .returned (.string ⟨(trimR (pOf cut) s.data.toList).toArray⟩) ∧ Below w.heap.size w w' := by
  have HT := Lib.hid hT
  have hM := Lib.hid (makeSet_no cut n0 w hc hf)
  have hv116 := zeroSet
  have hi116 := infoSet
  have hcp : 0 < cut.size := by
    obtain ⟨x, hx, _⟩ := hf
    have := (List.getElem?_eq_some_iff.1 hx).1
    rw [← Lib.size_eq] at this
    omega
  have hone : cut.size = 1 → 128 ≤ (cut[0]'hcp).toNat := fun h1 => by
    obtain ⟨x, hx, hx2, _⟩ := hf
    have hlt := (List.getElem?_eq_some_iff.1 hx).1
    rw [← Lib.size_eq, h1] at hlt
    obtain rfl : n0 = 0 := by omega
    rw [Lib.data_getElem? cut 0 hcp] at hx
    rw [Option.some.inj hx]
    exact hx2
  clear hf hT
  obtain ⟨C, hC⟩ : ∃ C, Lib.setCells (cut.data.toList.take n0) = C := ⟨_, rfl⟩
  have hsz := Lib.setCells_size (cut.data.toList.take n0)
  have hs1 := Lib.setCells_one (cut.data.toList.take n0)
  rw [hC] at hM hsz hs1
  clear hC
  have hemp : cut.toList.isEmpty = false := by
    rw [Lib.toList_data]
    cases h : cut.data.toList with
    | nil => have := Lib.size_eq cut; rw [h, List.length_nil] at this; omega
    | cons _ _ => rfl
  have hemps : s.toList.isEmpty = false := by
    rw [Lib.toList_data]
    cases h : s.data.toList with
    | nil => have := Lib.size_eq s; rw [h, List.length_nil] at this; omega
    | cons _ _ => rfl
  have hsc : (storeCells ⟨w.heap.size + 1, 0, none⟩ C.toList 0).run Tryd.prog ((w.alloc (.cells C 68)).alloc (.cells (Array.replicate 256 (.bool false)) 68)) = .ok () ((w.alloc (.cells C 68)).alloc (.cells C 68)) := by
    have := run_storeCells_new (P := Tryd.prog) (w.alloc (.cells C 68)) 68 (Array.replicate 256 (.bool false)) C (by rw [hsz]; exact hi116) (by rw [hsz, Array.size_replicate]) hs1
    simpa using this
  have BA : Below w.heap.size w ((w.alloc (.cells C 68)).alloc (.cells C 68)) := ((Below.refl _ w).alloc (Nat.le_refl _) _).alloc (by simp) _
  have HL : Hid (∀ (t : ByteArray) W, t.size ≤ s.size → Below w.heap.size w W → Calls Tryd.prog 97 #[.string t, .string cut] W fun e w' => e = .returned (.string ⟨(trimL (pOf cut) t.data.toList).toArray⟩) ∧ Below w.heap.size w w') := Lib.hid (fun t W ht hB => (trimLeftUnicode t cut W (by omega) hc (Utf8Tabs_below HT.out hB)).mono fun e w' ⟨h1, h2⟩ => ⟨h1, hB.trans (h2.mono hB.size)⟩)
  have HR : Hid (∀ (t : ByteArray) W, t.size ≤ s.size → Below w.heap.size w W → Calls Tryd.prog 100 #[.string t, .string cut] W fun e w' => e = .returned (.string ⟨(trimR (pOf cut) t.data.toList).toArray⟩) ∧ Below w.heap.size w w') := Lib.hid (fun t W ht hB => (trimRightUnicode t cut W (by omega) hc (Utf8Tabs_below HT.out hB)).mono fun e w' ⟨h1, h2⟩ => ⟨h1, hB.trans (h2.mono hB.size)⟩)
  have mixed : Tryd.prog.follows Departure.mixedOrders = true := by kernel_rfl
  have HS1 := Lib.hid hs1
  clear hs1
  by_cases h1 : cut.size = 1
  · have hn1 : ((cut.size : Int) == 1) = true := beq_iff_eq.2 (by omega)
    obtain ⟨x, hx⟩ : ∃ x, cut[0]'hcp = x := ⟨_, rfl⟩
    have hx2 := hone h1
    rw [hx] at hx2
    have hx3 : ¬ ((x.toNat : Int) < 128) := by omega
    have hcp2 : (0 : Int) < (cut.size : Int) := by omega
    clear hone h1
    go_enter Tryd.func59, Tryd.ntmps59
    go_wp2_with (go_at_call 77; refine hM.out.mono ?_; rintro e w' ⟨rfl, hw⟩; rw [hw])
    refine (HR.out s _ (Nat.le_refl _) BA).mono ?_
    rintro e w2 ⟨rfl, B2⟩
    go_wp2
    go_ret
    exact ⟨rfl, B2⟩
  · have hn1 : ((cut.size : Int) == 1) = false := beq_eq_false_iff_ne.2 (by omega)
    clear hone h1
    go_enter Tryd.func59, Tryd.ntmps59
    go_wp2_with (go_at_call 77; refine hM.out.mono ?_; rintro e w' ⟨rfl, hw⟩; rw [hw])
    refine (HR.out s _ (Nat.le_refl _) BA).mono ?_
    rintro e w2 ⟨rfl, B2⟩
    go_wp2
    go_ret
    exact ⟨rfl, B2⟩
set_option maxHeartbeats 8000000 in
set_option maxRecDepth 1000000 in
theorem Trim_uni (s cut : ByteArray) (n0 : Nat) (w : World) (h0 : 0 < s.size) (hs : s.size ≤ 9223372036854775807) (hc : cut.size < 4294967281) (hf : FirstHigh cut n0) (hT : Utf8Tabs 2 3 w) :
    Calls Tryd.prog 60 #[.string s, .string cut] w fun e w' => e = .returned (.string ⟨(trimB (pOf cut) s.data.toList).toArray⟩) ∧ Below w.heap.size w w' := by
  have HT := Lib.hid hT
  have hM := Lib.hid (makeSet_no cut n0 w hc hf)
  have hv116 := zeroSet
  have hi116 := infoSet
  have hcp : 0 < cut.size := by
    obtain ⟨x, hx, _⟩ := hf
    have := (List.getElem?_eq_some_iff.1 hx).1
    rw [← Lib.size_eq] at this
    omega
  have hone : cut.size = 1 → 128 ≤ (cut[0]'hcp).toNat := fun h1 => by
    obtain ⟨x, hx, hx2, _⟩ := hf
    have hlt := (List.getElem?_eq_some_iff.1 hx).1
    rw [← Lib.size_eq, h1] at hlt
    obtain rfl : n0 = 0 := by omega
    rw [Lib.data_getElem? cut 0 hcp] at hx
    rw [Option.some.inj hx]
    exact hx2
  clear hf hT
  obtain ⟨C, hC⟩ : ∃ C, Lib.setCells (cut.data.toList.take n0) = C := ⟨_, rfl⟩
  have hsz := Lib.setCells_size (cut.data.toList.take n0)
  have hs1 := Lib.setCells_one (cut.data.toList.take n0)
  rw [hC] at hM hsz hs1
  clear hC
  have hemp : cut.toList.isEmpty = false := by
    rw [Lib.toList_data]
    cases h : cut.data.toList with
    | nil => have := Lib.size_eq cut; rw [h, List.length_nil] at this; omega
    | cons _ _ => rfl
  have hemps : s.toList.isEmpty = false := by
    rw [Lib.toList_data]
    cases h : s.data.toList with
    | nil => have := Lib.size_eq s; rw [h, List.length_nil] at this; omega
    | cons _ _ => rfl
  have hsc : (storeCells ⟨w.heap.size + 1, 0, none⟩ C.toList 0).run Tryd.prog ((w.alloc (.cells C 68)).alloc (.cells (Array.replicate 256 (.bool false)) 68)) = .ok () ((w.alloc (.cells C 68)).alloc (.cells C 68)) := by
    have := run_storeCells_new (P := Tryd.prog) (w.alloc (.cells C 68)) 68 (Array.replicate 256 (.bool false)) C (by rw [hsz]; exact hi116) (by rw [hsz, Array.size_replicate]) hs1
    simpa using this
  have BA : Below w.heap.size w ((w.alloc (.cells C 68)).alloc (.cells C 68)) := ((Below.refl _ w).alloc (Nat.le_refl _) _).alloc (by simp) _
  have HL : Hid (∀ (t : ByteArray) W, t.size ≤ s.size → Below w.heap.size w W → Calls Tryd.prog 97 #[.string t, .string cut] W fun e w' => e = .returned (.string ⟨(trimL (pOf cut) t.data.toList).toArray⟩) ∧ Below w.heap.size w w') := Lib.hid (fun t W ht hB => (trimLeftUnicode t cut W (by omega) hc (Utf8Tabs_below HT.out hB)).mono fun e w' ⟨h1, h2⟩ => ⟨h1, hB.trans (h2.mono hB.size)⟩)
  have HR : Hid (∀ (t : ByteArray) W, t.size ≤ s.size → Below w.heap.size w W → Calls Tryd.prog 100 #[.string t, .string cut] W fun e w' => e = .returned (.string ⟨(trimR (pOf cut) t.data.toList).toArray⟩) ∧ Below w.heap.size w w') := Lib.hid (fun t W ht hB => (trimRightUnicode t cut W (by omega) hc (Utf8Tabs_below HT.out hB)).mono fun e w' ⟨h1, h2⟩ => ⟨h1, hB.trans (h2.mono hB.size)⟩)
  have mixed : Tryd.prog.follows Departure.mixedOrders = true := by kernel_rfl
  have HS1 := Lib.hid hs1
  clear hs1
  by_cases h1 : cut.size = 1
  · have hn1 : ((cut.size : Int) == 1) = true := beq_iff_eq.2 (by omega)
    obtain ⟨x, hx⟩ : ∃ x, cut[0]'hcp = x := ⟨_, rfl⟩
    have hx2 := hone h1
    rw [hx] at hx2
    have hx3 : ¬ ((x.toNat : Int) < 128) := by omega
    have hcp2 : (0 : Int) < (cut.size : Int) := by omega
    clear hone h1
    go_enter Tryd.func60, Tryd.ntmps60
    go_wp2_with (go_at_call 77; refine hM.out.mono ?_; rintro e w' ⟨rfl, hw⟩; rw [hw])
    refine (HR.out s _ (Nat.le_refl _) BA).mono ?_
    rintro e w2 ⟨rfl, B2⟩
    have hle : (⟨(trimR (pOf cut) s.data.toList).toArray⟩ : ByteArray).size ≤ s.size := by
      rw [Lib.size_mk, trimR, List.length_take, ← Lib.size_eq]
      omega
    go_wp2_with (go_at_call 97; refine (HL.out _ _ hle B2).mono ?_; rintro e w3 ⟨rfl, B3⟩)
    go_ret
    exact ⟨rfl, B3⟩
  · have hn1 : ((cut.size : Int) == 1) = false := beq_eq_false_iff_ne.2 (by omega)
    clear hone h1
    go_enter Tryd.func60, Tryd.ntmps60
    go_wp2_with (go_at_call 77; refine hM.out.mono ?_; rintro e w' ⟨rfl, hw⟩; rw [hw])
    refine (HR.out s _ (Nat.le_refl _) BA).mono ?_
    rintro e w2 ⟨rfl, B2⟩
    have hle : (⟨(trimR (pOf cut) s.data.toList).toArray⟩ : ByteArray).size ≤ s.size := by
      rw [Lib.size_mk, trimR, List.length_take, ← Lib.size_eq]
      omega
    go_wp2_with (go_at_call 97; refine (HL.out _ _ hle B2).mono ?_; rintro e w3 ⟨rfl, B3⟩)
    go_ret
    exact ⟨rfl, B3⟩
theorem below_or {w w' : World} (h : w' = w ∨ w' = w.drew) : Below w.heap.size w w' := by
  rcases h with rfl | rfl
  · exact Below.refl _ _
  · exact ⟨rfl, rfl, rfl, Nat.le_refl _, fun _ _ => rfl⟩
theorem pos_or (s : ByteArray) : s.size = 0 ∨ 0 < s.size := by omega
theorem nil_of {s : ByteArray} (h : s.size = 0) : s = ⟨#[]⟩ := by
  have h2 : s.data.toList = [] := List.eq_nil_of_length_eq_zero (by rw [← Lib.size_eq]; exact h)
  rw [← Lib.mk_data s, h2]
theorem one_of {cut : ByteArray} (h : cut.size = 1) : ∃ c, cut = ⟨#[c]⟩ := by
  have hl : cut.data.toList.length = 1 := by rw [← Lib.size_eq]; exact h
  match hc : cut.data.toList, hl with
  | [c], _ => exact ⟨c, by rw [← Lib.mk_data cut, hc]⟩
theorem ascii_mem {cut : ByteArray} (ha : ∀ (j : Nat) b, cut.data.toList[j]? = some b → b.toNat < 128) : ∀ c ∈ cut.data.toList, c.toNat < 128 := fun c hc => by
  obtain ⟨j, hj, h⟩ := List.mem_iff_getElem.1 hc
  exact ha j c (by rw [List.getElem?_eq_getElem hj, h])
theorem trimB_none {p : Nat → Bool} (h : ∀ r, p r = false) (l : List UInt8) : trimB p l = l := by
  unfold trimB; rw [(trim_none h l).2, (trim_none h l).1]
theorem trim_empty (p : Nat → Bool) : trimL p [] = [] ∧ trimR p [] = [] ∧ trimB p [] = [] := by
  refine ⟨by simp [trimL], by simp [trimR], by simp [trimB, trimL, trimR]⟩
theorem trimS_set {p : Nat → Bool} {cs l : List UInt8} (h : ∀ r, p r = true ↔ ∃ c ∈ cs, c.toNat = r ∧ c.toNat < 128) (ha : ∀ c ∈ cs, c.toNat < 128) : Lib.trimS l cs = trimB p l := by
  unfold Lib.trimS trimB
  rw [trimR_set h ha, trimL_set h ha]
theorem gTrimLeft (s cut : ByteArray) (w : World) (hs : s.size ≤ 9223372036854775807) (hc : cut.size < 4294967281) (hT : Utf8Tabs 2 3 w) :
    Calls Tryd.prog 58 #[.string s, .string cut] w fun e w' => e = .returned (.string ⟨(trimL (pOf cut) s.data.toList).toArray⟩) ∧ Below w.heap.size w w' := by
  rcases pos_or s with h0 | h0
  · obtain rfl := nil_of h0
    refine (strings_TrimLeft_empty ⟨#[]⟩ cut w (.inl rfl)).mono fun e w' ⟨h1, h2⟩ => ⟨?_, h2 ▸ Below.refl _ _⟩
    rw [h1]
    refine congrArg Ending.returned (congrArg Value.string ?_)
    show _ = (⟨(trimL (pOf cut) []).toArray⟩ : ByteArray)
    rw [(trim_empty _).1]
  rcases pos_or cut with h3 | h3
  · obtain rfl := nil_of h3
    refine (strings_TrimLeft_empty s ⟨#[]⟩ w (.inr rfl)).mono fun e w' ⟨h1, h2⟩ => ⟨?_, h2 ▸ Below.refl _ _⟩
    rw [h1, (trim_none pOf_nil _).1, Lib.mk_data]
  rcases high_or cut with ha | ⟨n0, hf⟩
  · have hm := ascii_mem ha
    by_cases h1 : cut.size = 1
    · obtain ⟨c, rfl⟩ := one_of h1
      have hc128 : c.toNat < 128 := hm c (by simp)
      refine (strings_TrimLeft_one s c hc128 w).mono fun e w' ⟨h2, h3⟩ => ⟨?_, h3 ▸ Below.refl _ _⟩
      rw [h2, ← Lib.trimLeftS_one, trimL_set (pOf_ascii hm) hm]
    · refine (strings_TrimLeft_set zeroSet infoSet s cut w (by omega) h0 hc ha).mono fun e w' ⟨h2, h3⟩ => ⟨?_, ?_⟩
      · rw [h2, trimL_set (pOf_ascii hm) hm]
      · rw [h3]
        exact ((Below.refl _ w).alloc (Nat.le_refl _) _).alloc (by simp) _
  · exact TrimLeft_uni s cut n0 w h0 hs hc hf hT
theorem gTrimRight (s cut : ByteArray) (w : World) (hs : s.size ≤ 9223372036854775807) (hc : cut.size < 4294967281) (hT : Utf8Tabs 2 3 w) :
    Calls Tryd.prog 59 #[.string s, .string cut] w fun e w' => e = .returned (.string ⟨(trimR (pOf cut) s.data.toList).toArray⟩) ∧ Below w.heap.size w w' := by
  rcases pos_or s with h0 | h0
  · obtain rfl := nil_of h0
    refine (strings_TrimRight_empty ⟨#[]⟩ cut w (.inl rfl)).mono fun e w' ⟨h1, h2⟩ => ⟨?_, h2 ▸ Below.refl _ _⟩
    rw [h1]
    refine congrArg Ending.returned (congrArg Value.string ?_)
    show _ = (⟨(trimR (pOf cut) []).toArray⟩ : ByteArray)
    rw [(trim_empty _).2.1]
  rcases pos_or cut with h3 | h3
  · obtain rfl := nil_of h3
    refine (strings_TrimRight_empty s ⟨#[]⟩ w (.inr rfl)).mono fun e w' ⟨h1, h2⟩ => ⟨?_, h2 ▸ Below.refl _ _⟩
    rw [h1, (trim_none pOf_nil _).2, Lib.mk_data]
  rcases high_or cut with ha | ⟨n0, hf⟩
  · have hm := ascii_mem ha
    by_cases h1 : cut.size = 1
    · obtain ⟨c, rfl⟩ := one_of h1
      have hc128 : c.toNat < 128 := hm c (by simp)
      refine (strings_TrimRight_one s c hc128 w hs).mono fun e w' ⟨h2, h3⟩ => ⟨?_, h3 ▸ Below.refl _ _⟩
      rw [h2, ← Lib.trimRightS_one, trimR_set (pOf_ascii hm) hm]
    · refine (strings_TrimRight_set zeroSet infoSet s cut w (by omega) h0 hs hc ha).mono fun e w' ⟨h2, h3⟩ => ⟨?_, ?_⟩
      · rw [h2, trimR_set (pOf_ascii hm) hm]
      · rw [h3]
        exact ((Below.refl _ w).alloc (Nat.le_refl _) _).alloc (by simp) _
  · exact TrimRight_uni s cut n0 w h0 hs hc hf hT
theorem gTrim (s cut : ByteArray) (w : World) (hs : s.size ≤ 9223372036854775807) (hc : cut.size < 4294967281) (hT : Utf8Tabs 2 3 w) :
    Calls Tryd.prog 60 #[.string s, .string cut] w fun e w' => e = .returned (.string ⟨(trimB (pOf cut) s.data.toList).toArray⟩) ∧ Below w.heap.size w w' := by
  rcases pos_or s with h0 | h0
  · obtain rfl := nil_of h0
    refine (strings_Trim_empty ⟨#[]⟩ cut w (.inl rfl)).mono fun e w' ⟨h1, h2⟩ => ⟨?_, h2 ▸ Below.refl _ _⟩
    rw [h1]
    refine congrArg Ending.returned (congrArg Value.string ?_)
    show _ = (⟨(trimB (pOf cut) []).toArray⟩ : ByteArray)
    rw [(trim_empty _).2.2]
  rcases pos_or cut with h3 | h3
  · obtain rfl := nil_of h3
    refine (strings_Trim_empty s ⟨#[]⟩ w (.inr rfl)).mono fun e w' ⟨h1, h2⟩ => ⟨?_, h2 ▸ Below.refl _ _⟩
    rw [h1, trimB_none pOf_nil, Lib.mk_data]
  rcases high_or cut with ha | ⟨n0, hf⟩
  · have hm := ascii_mem ha
    by_cases h1 : cut.size = 1
    · obtain ⟨c, rfl⟩ := one_of h1
      have hc128 : c.toNat < 128 := hm c (by simp)
      refine (strings_Trim_one s c hc128 w hs).mono fun e w' ⟨h2, h3⟩ => ⟨?_, below_or h3⟩
      rw [h2, ← Lib.trimS_one, trimS_set (pOf_ascii hm) hm]
    · refine (strings_Trim_set zeroSet infoSet s cut w (by omega) h0 hs hc ha).mono fun e w' ⟨h2, h3⟩ => ⟨?_, ?_⟩
      · rw [h2, trimS_set (pOf_ascii hm) hm]
      · obtain ⟨q, rfl⟩ := h3
        exact ⟨rfl, rfl, rfl, by simp; omega, fun i hi => (((Below.refl _ w).alloc (Nat.le_refl _) _).alloc (by simp) _).block i hi⟩
  · exact Trim_uni s cut n0 w h0 hs hc hf hT
set_option maxHeartbeats 800000 in
theorem implTrim (s cut : ByteArray) (w : World) (hs : s.size ≤ 9223372036854775807) (hc : cut.size < 4294967281) (hT : Utf8Tabs 2 3 w) :
    Calls Tryd.prog 32 #[.string s, .string cut] w fun e w' => e = .returned (.string ⟨(trimB (pOf cut) s.data.toList).toArray⟩) ∧ Below w.heap.size w w' := by
  have H := Lib.hid (gTrim s cut w hs hc hT)
  clear hT
  go_enter Tryd.func32, Tryd.ntmps32
  go_wp2_with (go_at_call 60; refine H.out.mono ?_; rintro e w' ⟨rfl, hB⟩)
  go_ret
  exact ⟨rfl, hB⟩
set_option maxHeartbeats 800000 in
theorem implTrimLeft (s cut : ByteArray) (w : World) (hs : s.size ≤ 9223372036854775807) (hc : cut.size < 4294967281) (hT : Utf8Tabs 2 3 w) :
    Calls Tryd.prog 30 #[.string s, .string cut] w fun e w' => e = .returned (.string ⟨(trimL (pOf cut) s.data.toList).toArray⟩) ∧ Below w.heap.size w w' := by
  have H := Lib.hid (gTrimLeft s cut w hs hc hT)
  clear hT
  go_enter Tryd.func30, Tryd.ntmps30
  go_wp2_with (go_at_call 58; refine H.out.mono ?_; rintro e w' ⟨rfl, hB⟩)
  go_ret
  exact ⟨rfl, hB⟩
set_option maxHeartbeats 800000 in
theorem implTrimRight (s cut : ByteArray) (w : World) (hs : s.size ≤ 9223372036854775807) (hc : cut.size < 4294967281) (hT : Utf8Tabs 2 3 w) :
    Calls Tryd.prog 31 #[.string s, .string cut] w fun e w' => e = .returned (.string ⟨(trimR (pOf cut) s.data.toList).toArray⟩) ∧ Below w.heap.size w w' := by
  have H := Lib.hid (gTrimRight s cut w hs hc hT)
  clear hT
  go_enter Tryd.func31, Tryd.ntmps31
  go_wp2_with (go_at_call 59; refine H.out.mono ?_; rintro e w' ⟨rfl, hB⟩)
  go_ret
  exact ⟨rfl, hB⟩
end Go.Proofs.YthnbifkcbeldmaaDoor
