/- gostrings.Trim, TrimLeft, TrimRight at an ASCII cutset (after the library's own walks of package strings, turned to this program). -/
import Derived.Test.YthnbifkcbeldmaaDoorShelf
import Derived.Lib.Hide
import Derived.Lib.Strings
import Derived.Lib.Slices
import Derived.Lib.Walk
import Derived.Lib.TrimByte
import Derived.Lib.SlTrimSet
import Derived.Lib.AsciiSet
import Derived.Lib.IndexBytes
import Derived.Laws.Strings3
import Derived.Laws.ResultCell
import Derived.Deep.LoopGhost
import Derived.Deep.WholeRow
import Derived.Deep.RegionWith
import Derived.RegionTactic
import Derived.WalkKit
import Derived.Shelf.Strings.SlTrimAsciiWalks
namespace Go.Proofs.YthnbifkcbeldmaaDoor
open Go.Shelf Go.RowKit
set_option linter.unusedVariables false

theorem oper_load {P : Program} {o : Oper} {a : Act} {w : World} {K : Act → World → Prop} {Q : Exit → Act → World → Prop} (ty : TypeId) (x : Operand) (ho : o.op = .load ty x) (g : Addr) (hx : a.eval x = .pointer (some g)) (v : Value)
    (hl : (loadVar ty g).run P w = .ok v w) (h : K (a.put o.dst v) w) : Oper.wp P o a w K Q := by
  unfold Oper.wp execOp
  simp only [ho, hx, Instr.loadAt, Instr.sureAddr, Sem.run_bind, Sem.run_pure, Result.andThen_ok, hl]
  exact h
set_option maxHeartbeats 8000000 in
set_option maxRecDepth 1000000 in
theorem strings_trimLeftByte (s : ByteArray) (c : UInt8) (w : World) :
    Calls Tryd.prog 95 #[.string s, .int .u8 c.toNat] w fun e w' => e = .returned (.string ⟨(Lib.trimLeftB s.data.toList c).toArray⟩) ∧ w' = w := by
  have mixed : Tryd.prog.follows Departure.mixedOrders = true := by kernel_rfl
  go_enter Tryd.func95, Tryd.ntmps95
  go_wp2
  go_loop [0] (fun v => ∃ k : Nat, k ≤ s.size ∧ v = .string ⟨(s.data.toList.drop k).toArray⟩ ∧ ∀ (j : Nat) b, j < k → s.data.toList[j]? = some b → b = c) (fun v => Lib.strSize v)
  case atStart => exact ⟨0, Nat.zero_le _, by simp, fun j b hj => absurd hj (Nat.not_lt_zero _)⟩
  case round =>
    obtain ⟨k, hk, rfl, hc⟩ := hrel
    have hts : (⟨(s.data.toList.drop k).toArray⟩ : ByteArray).size = s.size - k := by rw [Lib.size_mk, List.length_drop, ← Lib.size_eq]
    have hb0 : ∀ h, s.data.toList[k]? = some ((⟨(s.data.toList.drop k).toArray⟩ : ByteArray)[0]'h) := by
      intro h
      rw [← Lib.getElem_mk (s.data.toList.drop k) 0 h, List.getElem?_drop]
      rfl
    have hx1 : (⟨(s.data.toList.drop k).toArray⟩ : ByteArray).extract 1 (s.size - k) = ⟨(s.data.toList.drop (k + 1)).toArray⟩ := by
      rw [Lib.extract_mk, List.drop_drop, List.take_of_length_le (by simp; omega)]
    have hK : Lib.Kept (∀ (j : Nat) b, j < k → s.data.toList[j]? = some b → b = c) := hc
    clear hc
    generalize ht : (⟨(s.data.toList.drop k).toArray⟩ : ByteArray) = t at hts hb0 hx1 ⊢
    have hK3 : Lib.Kept ((⟨(s.data.toList.drop k).toArray⟩ : ByteArray) = t) := ht
    clear ht
    have hkl : Lib.Kept (k ≤ s.data.toList.length) := by rw [← Lib.size_eq]; exact hk
    by_cases h0 : 0 < t.size
    · have hbk := hb0 h0
      clear hb0
      by_cases heq : t[0]'h0 = c
      · have heq' : ((t[0]'h0).toNat : Int) = (c.toNat : Int) := by rw [heq]
        have hK2 : Lib.Kept (s.data.toList[k]? = some (t[0]'h0)) := hbk
        clear hbk
        go_wp2
        refine ⟨⟨k + 1, by omega, rfl, fun j b hj hb => ?_⟩, ?_⟩
        · by_cases e : j = k
          · subst e
            have h2 : s.data.toList[j]? = some (t[0]'h0) := hK2
            have h3 : s.data.toList[j]? = some b := by simpa using hb
            rw [h2] at h3
            rw [← Option.some.inj h3, heq]
          · exact hK j b (by omega) (by simpa using hb)
        · rw [Lib.strSize_string, Lib.strSize_string, Lib.size_mk, List.length_drop, ← Lib.size_eq]
          omega
      · have hne' : ¬ ((t[0]'h0).toNat : Int) = (c.toNat : Int) := by
          intro e
          exact heq (UInt8.toNat_inj.1 (by exact_mod_cast e))
        have hbeq : (((t[0]'h0).toNat : Int) == (c.toNat : Int)) = false := by simpa using hne'
        have hK2 : Lib.Kept (s.data.toList[k]? = some (t[0]'h0)) := hbk
        clear hbk
        go_wp2
        go_ret
        refine ⟨?_, rfl⟩
        have ht' : (⟨(s.data.toList.drop k).toArray⟩ : ByteArray) = t := hK3
        show Ending.returned (Value.string t) = _
        rw [Lib.trimLeftB_drop s.data.toList c k hkl hK (fun b hb => by
          have h2 : s.data.toList[k]? = some (t[0]'h0) := hK2
          rw [h2] at hb
          rw [← Option.some.inj hb]
          exact heq), ht']
    · clear hb0
      go_wp2
      go_ret
      refine ⟨?_, rfl⟩
      have ht' : (⟨(s.data.toList.drop k).toArray⟩ : ByteArray) = t := hK3
      show Ending.returned (Value.string t) = _
      rw [Lib.trimLeftB_drop s.data.toList c k hkl hK (fun b hb => by
        have : s.data.toList.length ≤ k := by rw [← Lib.size_eq]; omega
        simp [List.getElem?_eq_none this] at hb), ht']

set_option maxHeartbeats 8000000 in
set_option maxRecDepth 1000000 in
theorem strings_trimRightByte (s : ByteArray) (c : UInt8) (w : World) (hs : s.size ≤ 9223372036854775807) :
    Calls Tryd.prog 98 #[.string s, .int .u8 c.toNat] w fun e w' => e = .returned (.string ⟨(Lib.trimRightB s.data.toList c).toArray⟩) ∧ w' = w := by
  have mixed : Tryd.prog.follows Departure.mixedOrders = true := by kernel_rfl
  go_enter Tryd.func98, Tryd.ntmps98
  go_wp2
  go_loop [0] (fun v => ∃ k : Nat, k ≤ s.size ∧ v = .string ⟨(s.data.toList.take k).toArray⟩ ∧ ∀ (j : Nat) b, k ≤ j → s.data.toList[j]? = some b → b = c) (fun v => Lib.strSize v)
  case atStart =>
    refine ⟨s.size, Nat.le_refl _, ?_, fun j b hj hb => ?_⟩
    · rw [Lib.size_eq, List.take_length, Lib.mk_data]
    · have : s.data.toList.length ≤ j := by rw [← Lib.size_eq]; exact hj
      simp [List.getElem?_eq_none this] at hb
  case round =>
    obtain ⟨k, hk, rfl, hc⟩ := hrel
    have hkl : k ≤ s.data.toList.length := by rw [← Lib.size_eq]; exact hk
    have hts : (⟨(s.data.toList.take k).toArray⟩ : ByteArray).size = k := by rw [Lib.size_mk, List.length_take]; omega
    have hb0 : ∀ h, s.data.toList[k - 1]? = some ((⟨(s.data.toList.take k).toArray⟩ : ByteArray)[k - 1]'h) := by
      intro h
      rw [← Lib.getElem_mk (s.data.toList.take k) (k - 1) h, List.getElem?_take]
      rw [hts] at h
      rw [if_pos h]
    have hx1 : (⟨(s.data.toList.take k).toArray⟩ : ByteArray).extract 0 (k - 1) = ⟨(s.data.toList.take (k - 1)).toArray⟩ := by
      rw [Lib.extract_mk, List.drop_zero, List.take_take]
      congr 3
      omega
    have hK : Lib.Kept (∀ (j : Nat) b, k ≤ j → s.data.toList[j]? = some b → b = c) := hc
    clear hc
    have hkl' : Lib.Kept (k ≤ s.data.toList.length) := hkl
    clear hkl
    generalize ht : (⟨(s.data.toList.take k).toArray⟩ : ByteArray) = t at hts hb0 hx1 ⊢
    have hK3 : Lib.Kept ((⟨(s.data.toList.take k).toArray⟩ : ByteArray) = t) := ht
    clear ht
    by_cases h0 : 0 < k
    · have h1 : k - 1 < t.size := by omega
      have hwr : ((k : Int) - 1 + 9223372036854775808) % 18446744073709551616 - 9223372036854775808 = ((k - 1 : Nat) : Int) := by omega
      have hbk := hb0 h1
      clear hb0
      by_cases heq : t[k - 1]'h1 = c
      · have heq' : ((t[k - 1]'h1).toNat : Int) = (c.toNat : Int) := by rw [heq]
        have hK2 : Lib.Kept (s.data.toList[k - 1]? = some (t[k - 1]'h1)) := hbk
        clear hbk
        go_wp2
        refine ⟨⟨k - 1, by omega, rfl, fun j b hj hb => ?_⟩, ?_⟩
        · by_cases e : j = k - 1
          · subst e
            have h2 : s.data.toList[k - 1]? = some (t[k - 1]'h1) := hK2
            have h3 : s.data.toList[k - 1]? = some b := by simpa using hb
            rw [h2] at h3
            rw [← Option.some.inj h3, heq]
          · exact hK j b (by omega) (by simpa using hb)
        · have hkl : k ≤ s.data.toList.length := hkl'
          rw [Lib.strSize_string, Lib.strSize_string, Lib.size_mk, List.length_take]
          omega
      · have hne' : ¬ ((t[k - 1]'h1).toNat : Int) = (c.toNat : Int) := by
          intro e
          exact heq (UInt8.toNat_inj.1 (by exact_mod_cast e))
        have hbeq : (((t[k - 1]'h1).toNat : Int) == (c.toNat : Int)) = false := by simpa using hne'
        have hK2 : Lib.Kept (s.data.toList[k - 1]? = some (t[k - 1]'h1)) := hbk
        clear hbk
        go_wp2
        go_ret
        refine ⟨?_, rfl⟩
        have ht' : (⟨(s.data.toList.take k).toArray⟩ : ByteArray) = t := hK3
        show Ending.returned (Value.string t) = _
        rw [Lib.trimRightB_take s.data.toList c k hkl' hK (fun b _ hb => by
          have h2 : s.data.toList[k - 1]? = some (t[k - 1]'h1) := hK2
          rw [h2] at hb
          rw [← Option.some.inj hb]
          exact heq), ht']
    · clear hb0
      go_wp2
      go_ret
      refine ⟨?_, rfl⟩
      have ht' : (⟨(s.data.toList.take k).toArray⟩ : ByteArray) = t := hK3
      show Ending.returned (Value.string t) = _
      rw [Lib.trimRightB_take s.data.toList c k hkl' hK (fun b hk0 _ => absurd hk0 h0), ht']

set_option maxHeartbeats 8000000 in
set_option maxRecDepth 1000000 in
theorem strings_TrimLeft_one (s : ByteArray) (c : UInt8) (hc : c.toNat < 128) (w : World) :
    Calls Tryd.prog 58 #[.string s, .string ⟨#[c]⟩] w fun e w' => e = .returned (.string ⟨(Lib.trimLeftB s.data.toList c).toArray⟩) ∧ w' = w := by
  have hc' : ¬ (128 : Int) ≤ (c.toNat : Int) := by omega
  have mixed : Tryd.prog.follows Departure.mixedOrders = true := by kernel_rfl
  go_enter Tryd.func58, Tryd.ntmps58
  go_wp2_with (go_at_call 95; refine (strings_trimLeftByte s c _).mono ?_; rintro e w' ⟨rfl, rfl⟩)
  · have hl : s.data.toList = [] := by rw [← Lib.toList_data]; assumption
    go_ret
    refine ⟨?_, rfl⟩
    show Ending.returned (Value.string s) = _
    have hs0 : s = ⟨#[]⟩ := by rw [← Lib.mk_data s, hl]
    rw [hl]
    simp [Lib.trimLeftB, hs0]
  · exfalso
    have h1 : ¬ s.toList = [] := by assumption
    have h2 : s.toList.isEmpty = true := by assumption
    exact h1 (by simpa using h2)
  · go_ret
    exact ⟨rfl, rfl⟩
  all_goals (
    exfalso
    have h1 : (128 : Int) ≤ (((⟨#[c]⟩ : ByteArray)[0]'Nat.zero_lt_one).toNat : Int) := by assumption
    have h2 : ((⟨#[c]⟩ : ByteArray)[0]'Nat.zero_lt_one) = c := rfl
    rw [h2] at h1
    omega)

set_option maxHeartbeats 8000000 in
set_option maxRecDepth 1000000 in
theorem strings_TrimRight_one (s : ByteArray) (c : UInt8) (hc : c.toNat < 128) (w : World) (hs : s.size ≤ 9223372036854775807) :
    Calls Tryd.prog 59 #[.string s, .string ⟨#[c]⟩] w fun e w' => e = .returned (.string ⟨(Lib.trimRightB s.data.toList c).toArray⟩) ∧ w' = w := by
  have hc' : ¬ (128 : Int) ≤ (c.toNat : Int) := by omega
  have mixed : Tryd.prog.follows Departure.mixedOrders = true := by kernel_rfl
  go_enter Tryd.func59, Tryd.ntmps59
  go_wp2_with (go_at_call 98; refine (strings_trimRightByte s c _ hs).mono ?_; rintro e w' ⟨rfl, rfl⟩)
  · have hl : s.data.toList = [] := by rw [← Lib.toList_data]; assumption
    go_ret
    refine ⟨?_, rfl⟩
    show Ending.returned (Value.string s) = _
    have hs0 : s = ⟨#[]⟩ := by rw [← Lib.mk_data s, hl]
    rw [hl]
    simp [Lib.trimRightB, hs0]
  · exfalso
    have h1 : ¬ s.toList = [] := by assumption
    have h2 : s.toList.isEmpty = true := by assumption
    exact h1 (by simpa using h2)
  · go_ret
    exact ⟨rfl, rfl⟩
  all_goals (
    exfalso
    have h1 : (128 : Int) ≤ (((⟨#[c]⟩ : ByteArray)[0]'Nat.zero_lt_one).toNat : Int) := by assumption
    have h2 : ((⟨#[c]⟩ : ByteArray)[0]'Nat.zero_lt_one) = c := rfl
    rw [h2] at h1
    omega)

set_option maxHeartbeats 8000000 in
set_option maxRecDepth 1000000 in
theorem strings_Trim_one (s : ByteArray) (c : UInt8) (hc : c.toNat < 128) (w : World) (hs : s.size ≤ 9223372036854775807) :
    Calls Tryd.prog 60 #[.string s, .string ⟨#[c]⟩] w fun e w' => e = .returned (.string ⟨(Lib.trimB s.data.toList c).toArray⟩) ∧ (w' = w ∨ w' = w.drew) := by
  have hc' : ¬ (128 : Int) ≤ (c.toNat : Int) := by omega
  have mixed : Tryd.prog.follows Departure.mixedOrders = true := by kernel_rfl
  go_enter Tryd.func60, Tryd.ntmps60
  go_wp2
  · have hl : s.data.toList = [] := by rw [← Lib.toList_data]; assumption
    go_ret
    refine ⟨?_, Or.inl rfl⟩
    show Ending.returned (Value.string s) = _
    have hs0 : s = ⟨#[]⟩ := by rw [← Lib.mk_data s, hl]
    rw [hl]
    simp [Lib.trimB, Lib.trimLeftB, Lib.trimRightB, hs0]
  · exfalso
    have h1 : ¬ s.toList = [] := by assumption
    have h2 : s.toList.isEmpty = true := by assumption
    exact h1 (by simpa using h2)
  · go_region_with_o (first
      | (refine (strings_trimRightByte s c _ hs).mono ?_; rintro e w' ⟨rfl, rfl⟩)
      | (refine (strings_trimLeftByte ⟨(Lib.trimRightB s.data.toList c).toArray⟩ c _).mono ?_; rintro e w' ⟨rfl, rfl⟩))
    all_goals (go_wp2; go_ret; exact ⟨rfl, Or.inr rfl⟩)
  all_goals (
    exfalso
    have h1 : (128 : Int) ≤ (((⟨#[c]⟩ : ByteArray)[0]'Nat.zero_lt_one).toNat : Int) := by assumption
    have h2 : ((⟨#[c]⟩ : ByteArray)[0]'Nat.zero_lt_one) = c := rfl
    rw [h2] at h1
    omega)

set_option maxHeartbeats 8000000 in
set_option maxRecDepth 1000000 in
theorem strings_makeASCIISet (hv116 : ∀ w, (zeroValue 68).run Tryd.prog w = .ok (.agg (Array.replicate 256 (.bool false))) w) (hi116 : (Tryd.prog.info? 68).map (·.size) = some 256) (chars : ByteArray) (w : World) (hs : chars.size < 4294967281)
    (hascii : ∀ (j : Nat) b, chars.data.toList[j]? = some b → b.toNat < 128) :
    Calls Tryd.prog 77 #[.string chars] w fun e w' => e = .returned (.tuple #[.agg (Lib.setCells chars.data.toList), .bool true]) ∧ w' = w.alloc (.cells (Lib.setCells chars.data.toList) 68) := by
  have HA : Aside (∀ (j : Nat) b, chars.data.toList[j]? = some b → b.toNat < 128) := hascii
  clear hascii
  have mixed : Tryd.prog.follows Departure.mixedOrders = true := by kernel_rfl
  go_enter Tryd.func77, Tryd.ntmps77
  go_wp2
  rw [← Lib.setCells_nil]
  go_loopg [4] chars.size (fun g s4 wx => ∃ i : Nat, i + g = chars.size ∧ s4 = .int .i64 i ∧ wx = w.alloc (.cells (Lib.setCells (chars.data.toList.take i)) 68))
  case atStart => exact ⟨0, by omega, rfl, rfl⟩
  case round =>
    obtain ⟨i, hig, rfl, rfl⟩ := hrel
    cases gk with
    | zero =>
      obtain rfl : i = chars.size := by omega
      have hiz : ¬ ((chars.size : Int) < (chars.size : Int)) := by omega
      rw [show chars.data.toList.take chars.size = chars.data.toList from List.take_of_length_le (by rw [← Lib.size_eq]; exact Nat.le_refl _)]
      have hld := run_loadVar_new (P := Tryd.prog) w 68 (Lib.setCells chars.data.toList) 256 4 Tryd.underlying68 (by rw [Lib.setCells_size]; exact hi116)
      have hsz := Lib.setCells_size chars.data.toList
      have hlc := run_loadCellsFrom_new (P := Tryd.prog) w 68 (Lib.setCells chars.data.toList) 256 hsz
      have hsc := run_storeCells_new (P := Tryd.prog) w 68 (Lib.setCells chars.data.toList) (Lib.setCells chars.data.toList) (by rw [hsz]; exact hi116) rfl (Lib.setCells_one _)
      -- (✋ 'isAgg', 'sizeOf' of [256]bool are kept OUT of the walk's context: with them its simp opens the load into 256 loads. The walk stops at the operation; that one step by hand.)
      go_wp2
      refine oper_load 68 (.tmp 2) rfl ⟨w.heap.size, 0, none⟩ rfl _ hld ?_
      go_wp2
      (try simp only [Exit.inBlock, Exit.then])
      refine bodyPost_ret (v := .tuple #[.agg (Lib.setCells chars.data.toList), .bool true]) ?_ rfl ⟨rfl, rfl⟩
      rw [results_cell_tmp rfl]
      simp [asAddr, Result.andThen, hld]
    | succ g =>
      have hi : i < chars.size := by omega
      have hiz : (i : Int) < (chars.size : Int) := by omega
      obtain ⟨x, hx⟩ : ∃ x : UInt8, chars[i]'hi = x := ⟨_, rfl⟩
      have hxl : chars.data.toList[i]? = some x := by rw [← hx]; exact Lib.data_getElem? chars i hi
      have hx128 : ¬ ((128 : Int) ≤ (x.toNat : Int)) := by have := HA.out i x hxl; omega
      have hx256 : (x.toNat : Int) < 256 := by have := HA.out i x hxl; omega
      have hcell := Lib.setCells_at (chars.data.toList.take i) x
      have Hx : Aside (chars.data.toList[i]? = some x) := hxl
      clear hxl
      go_wp2
      go_roundg g
      case measure => omega
      case rel => exact ⟨i + 1, by omega, by first | rfl | simp, by rw [List.take_add_one, Hx.out]; simp only [Option.toList]; rw [Lib.setCells_snoc]⟩

set_option maxHeartbeats 8000000 in
set_option maxRecDepth 1000000 in
theorem asciiSet_contains (b : Nat) (x : UInt8) (v : Bool) (w : World) (hc : w.cell? ⟨b, x.toNat, none⟩ = some (.bool v)) :
    Calls Tryd.prog 78 #[.pointer (some ⟨b, 0, none⟩), .int .u8 x.toNat] w fun e w' => e = .returned (.bool v) ∧ w' = w := by
  have hx256 : (x.toNat : Int) < 256 := by have := UInt8.toNat_lt x; omega
  have mixed : Tryd.prog.follows Departure.mixedOrders = true := by kernel_rfl
  go_enter Tryd.func78, Tryd.ntmps78
  go_wp2
  go_ret
  exact ⟨rfl, rfl⟩

set_option maxHeartbeats 8000000 in
set_option maxRecDepth 1000000 in
theorem strings_trimLeftASCII (s : ByteArray) (b : Nat) (cs : List UInt8) (w : World) (hset : ∀ x : UInt8, w.cell? ⟨b, x.toNat, none⟩ = some (.bool (cs.contains x))) :
    Calls Tryd.prog 96 #[.string s, .pointer (some ⟨b, 0, none⟩)] w fun e w' => e = .returned (.string ⟨(Lib.trimLeftS s.data.toList cs).toArray⟩) ∧ w' = w := by
  have HS : Aside _ := hset
  clear hset
  have mixed : Tryd.prog.follows Departure.mixedOrders = true := by kernel_rfl
  go_enter Tryd.func96, Tryd.ntmps96
  go_wp2
  go_loop [0] (fun v => ∃ k : Nat, k ≤ s.size ∧ v = .string ⟨(s.data.toList.drop k).toArray⟩ ∧ ∀ (j : Nat) b, j < k → s.data.toList[j]? = some b → cs.contains b = true) (fun v => Lib.strSize v)
  case atStart => exact ⟨0, Nat.zero_le _, by simp, fun j b hj => absurd hj (Nat.not_lt_zero _)⟩
  case round =>
    obtain ⟨k, hk, rfl, hc⟩ := hrel
    have hts : (⟨(s.data.toList.drop k).toArray⟩ : ByteArray).size = s.size - k := by rw [Lib.size_mk, List.length_drop, ← Lib.size_eq]
    have hb0 : ∀ h, s.data.toList[k]? = some ((⟨(s.data.toList.drop k).toArray⟩ : ByteArray)[0]'h) := by
      intro h
      rw [← Lib.getElem_mk (s.data.toList.drop k) 0 h, List.getElem?_drop]
      rfl
    have hx1 : (⟨(s.data.toList.drop k).toArray⟩ : ByteArray).extract 1 (s.size - k) = ⟨(s.data.toList.drop (k + 1)).toArray⟩ := by
      rw [Lib.extract_mk, List.drop_drop, List.take_of_length_le (by simp; omega)]
    have hK : Lib.Kept (∀ (j : Nat) b, j < k → s.data.toList[j]? = some b → cs.contains b = true) := hc
    clear hc
    generalize ht : (⟨(s.data.toList.drop k).toArray⟩ : ByteArray) = t at hts hb0 hx1 ⊢
    have hK3 : Lib.Kept ((⟨(s.data.toList.drop k).toArray⟩ : ByteArray) = t) := ht
    clear ht
    have hkl : Lib.Kept (k ≤ s.data.toList.length) := by rw [← Lib.size_eq]; exact hk
    by_cases h0 : 0 < t.size
    · have hbk := hb0 h0
      clear hb0
      have hK2 : Lib.Kept (s.data.toList[k]? = some (t[0]'h0)) := hbk
      clear hbk
      have hcx := HS.out (t[0]'h0)
      cases hin : cs.contains (t[0]'h0) <;> rw [hin] at hcx
      · have HI : Lib.Kept (cs.contains (t[0]'h0) = false) := hin
        clear hin
        go_wp2_with (go_at_call 78; refine (asciiSet_contains _ (t[0]'h0) _ _ hcx).mono ?_; rintro e w' ⟨rfl, hw⟩; rw [hw])
        go_ret
        refine ⟨?_, rfl⟩
        have ht' : (⟨(s.data.toList.drop k).toArray⟩ : ByteArray) = t := hK3
        show Ending.returned (Value.string t) = _
        rw [Lib.trimLeftS_drop s.data.toList cs k hkl hK (fun b hb => by
          have h2 : s.data.toList[k]? = some (t[0]'h0) := hK2
          rw [h2] at hb
          rw [← Option.some.inj hb]
          exact HI), ht']
      · have HI : Lib.Kept (cs.contains (t[0]'h0) = true) := hin
        clear hin
        go_wp2_with (go_at_call 78; refine (asciiSet_contains _ (t[0]'h0) _ _ hcx).mono ?_; rintro e w' ⟨rfl, hw⟩; rw [hw])
        refine ⟨⟨k + 1, by omega, rfl, fun j b hj hb => ?_⟩, ?_⟩
        · by_cases e : j = k
          · subst e
            have h2 : s.data.toList[j]? = some (t[0]'h0) := hK2
            have h3 : s.data.toList[j]? = some b := by simpa using hb
            rw [h2] at h3
            rw [← Option.some.inj h3]
            exact HI
          · exact hK j b (by omega) (by simpa using hb)
        · rw [Lib.strSize_string, Lib.strSize_string, Lib.size_mk, List.length_drop, ← Lib.size_eq]
          omega
    · clear hb0
      go_wp2
      go_ret
      refine ⟨?_, rfl⟩
      have ht' : (⟨(s.data.toList.drop k).toArray⟩ : ByteArray) = t := hK3
      show Ending.returned (Value.string t) = _
      rw [Lib.trimLeftS_drop s.data.toList cs k hkl hK (fun b hb => by
        have : s.data.toList.length ≤ k := by rw [← Lib.size_eq]; omega
        simp [List.getElem?_eq_none this] at hb), ht']

set_option maxHeartbeats 8000000 in
set_option maxRecDepth 1000000 in
theorem strings_trimRightASCII (s : ByteArray) (b : Nat) (cs : List UInt8) (w : World) (hs : s.size ≤ 9223372036854775807) (hset : ∀ x : UInt8, w.cell? ⟨b, x.toNat, none⟩ = some (.bool (cs.contains x))) :
    Calls Tryd.prog 99 #[.string s, .pointer (some ⟨b, 0, none⟩)] w fun e w' => e = .returned (.string ⟨(Lib.trimRightS s.data.toList cs).toArray⟩) ∧ w' = w := by
  have HS : Aside _ := hset
  clear hset
  have mixed : Tryd.prog.follows Departure.mixedOrders = true := by kernel_rfl
  go_enter Tryd.func99, Tryd.ntmps99
  go_wp2
  go_loop [0] (fun v => ∃ k : Nat, k ≤ s.size ∧ v = .string ⟨(s.data.toList.take k).toArray⟩ ∧ ∀ (j : Nat) b, k ≤ j → s.data.toList[j]? = some b → cs.contains b = true) (fun v => Lib.strSize v)
  case atStart =>
    refine ⟨s.size, Nat.le_refl _, ?_, fun j b hj hb => ?_⟩
    · rw [Lib.size_eq, List.take_length, Lib.mk_data]
    · have : s.data.toList.length ≤ j := by rw [← Lib.size_eq]; exact hj
      simp [List.getElem?_eq_none this] at hb
  case round =>
    obtain ⟨k, hk, rfl, hc⟩ := hrel
    have hkl : k ≤ s.data.toList.length := by rw [← Lib.size_eq]; exact hk
    have hts : (⟨(s.data.toList.take k).toArray⟩ : ByteArray).size = k := by rw [Lib.size_mk, List.length_take]; omega
    have hb0 : ∀ h, s.data.toList[k - 1]? = some ((⟨(s.data.toList.take k).toArray⟩ : ByteArray)[k - 1]'h) := by
      intro h
      rw [← Lib.getElem_mk (s.data.toList.take k) (k - 1) h, List.getElem?_take]
      rw [hts] at h
      rw [if_pos h]
    have hx1 : (⟨(s.data.toList.take k).toArray⟩ : ByteArray).extract 0 (k - 1) = ⟨(s.data.toList.take (k - 1)).toArray⟩ := by
      rw [Lib.extract_mk, List.drop_zero, List.take_take]
      congr 3
      omega
    have hK : Lib.Kept (∀ (j : Nat) b, k ≤ j → s.data.toList[j]? = some b → cs.contains b = true) := hc
    clear hc
    have hkl' : Lib.Kept (k ≤ s.data.toList.length) := hkl
    clear hkl
    generalize ht : (⟨(s.data.toList.take k).toArray⟩ : ByteArray) = t at hts hb0 hx1 ⊢
    have hK3 : Lib.Kept ((⟨(s.data.toList.take k).toArray⟩ : ByteArray) = t) := ht
    clear ht
    by_cases h0 : 0 < k
    · have h1 : k - 1 < t.size := by omega
      have hwr : ((k : Int) - 1 + 9223372036854775808) % 18446744073709551616 - 9223372036854775808 = ((k - 1 : Nat) : Int) := by omega
      have hbk := hb0 h1
      clear hb0
      have hK2 : Lib.Kept (s.data.toList[k - 1]? = some (t[k - 1]'h1)) := hbk
      clear hbk
      have hcx := HS.out (t[k - 1]'h1)
      cases hin : cs.contains (t[k - 1]'h1) <;> rw [hin] at hcx
      · have HI : Lib.Kept (cs.contains (t[k - 1]'h1) = false) := hin
        clear hin
        go_wp2_with (go_at_call 78; refine (asciiSet_contains _ (t[k - 1]'h1) _ _ hcx).mono ?_; rintro e w' ⟨rfl, hw⟩; rw [hw])
        go_ret
        refine ⟨?_, rfl⟩
        have ht' : (⟨(s.data.toList.take k).toArray⟩ : ByteArray) = t := hK3
        show Ending.returned (Value.string t) = _
        rw [Lib.trimRightS_take s.data.toList cs k hkl' hK (fun b _ hb => by
          have h2 : s.data.toList[k - 1]? = some (t[k - 1]'h1) := hK2
          rw [h2] at hb
          rw [← Option.some.inj hb]
          exact HI), ht']
      · have HI : Lib.Kept (cs.contains (t[k - 1]'h1) = true) := hin
        clear hin
        go_wp2_with (go_at_call 78; refine (asciiSet_contains _ (t[k - 1]'h1) _ _ hcx).mono ?_; rintro e w' ⟨rfl, hw⟩; rw [hw])
        refine ⟨⟨k - 1, by omega, rfl, fun j b hj hb => ?_⟩, ?_⟩
        · by_cases e : j = k - 1
          · subst e
            have h2 : s.data.toList[k - 1]? = some (t[k - 1]'h1) := hK2
            have h3 : s.data.toList[k - 1]? = some b := by simpa using hb
            rw [h2] at h3
            rw [← Option.some.inj h3]
            exact HI
          · exact hK j b (by omega) (by simpa using hb)
        · have hkl : k ≤ s.data.toList.length := hkl'
          rw [Lib.strSize_string, Lib.strSize_string, Lib.size_mk, List.length_take]
          omega
    · clear hb0
      go_wp2
      go_ret
      refine ⟨?_, rfl⟩
      have ht' : (⟨(s.data.toList.take k).toArray⟩ : ByteArray) = t := hK3
      show Ending.returned (Value.string t) = _
      rw [Lib.trimRightS_take s.data.toList cs k hkl' hK (fun b hk0 _ => absurd hk0 h0), ht']

set_option maxHeartbeats 8000000 in
set_option maxRecDepth 1000000 in
theorem strings_TrimLeft_set (hv116 : ∀ w, (zeroValue 68).run Tryd.prog w = .ok (.agg (Array.replicate 256 (.bool false))) w) (hi116 : (Tryd.prog.info? 68).map (·.size) = some 256) (s cutset : ByteArray) (w : World) (h2 : 2 ≤ cutset.size) (h0 : 0 < s.size) (hcs : cutset.size < 4294967281)
    (hascii : ∀ (j : Nat) b, cutset.data.toList[j]? = some b → b.toNat < 128) :
    Calls Tryd.prog 58 #[.string s, .string cutset] w fun e w' => e = .returned (.string ⟨(Lib.trimLeftS s.data.toList cutset.data.toList).toArray⟩) ∧ w' = ((w.alloc (.cells (Lib.setCells cutset.data.toList) 68)).alloc (.cells (Lib.setCells cutset.data.toList) 68)) := by
  have hM := strings_makeASCIISet hv116 hi116 cutset w hcs hascii
  clear hascii
  have hemp : cutset.toList.isEmpty = false := by
    rw [Lib.toList_data]
    cases h : cutset.data.toList with
    | nil => have := Lib.size_eq cutset; rw [h, List.length_nil] at this; omega
    | cons _ _ => rfl
  have hemps : s.toList.isEmpty = false := by
    rw [Lib.toList_data]
    cases h : s.data.toList with
    | nil => have := Lib.size_eq s; rw [h, List.length_nil] at this; omega
    | cons _ _ => rfl
  have hn1 : ((cutset.size : Int) == 1) = false := beq_eq_false_iff_ne.2 (by omega)
  have hsc : (storeCells ⟨w.heap.size + 1, 0, none⟩ (Lib.setCells cutset.data.toList).toList 0).run Tryd.prog ((w.alloc (.cells (Lib.setCells cutset.data.toList) 68)).alloc (.cells (Array.replicate 256 (.bool false)) 68)) = .ok () ((w.alloc (.cells (Lib.setCells cutset.data.toList) 68)).alloc (.cells (Lib.setCells cutset.data.toList) 68)) := by
    have := run_storeCells_new (P := Tryd.prog) (w.alloc (.cells (Lib.setCells cutset.data.toList) 68)) 68 (Array.replicate 256 (.bool false)) (Lib.setCells cutset.data.toList) (by rw [Lib.setCells_size]; exact hi116) (by rw [Lib.setCells_size, Array.size_replicate]) (Lib.setCells_one _)
    simpa using this
  have hsz := Lib.setCells_size cutset.data.toList
  have hcellAt : ∀ x : UInt8, ((w.alloc (.cells (Lib.setCells cutset.data.toList) 68)).alloc (.cells (Lib.setCells cutset.data.toList) 68)).cell? ⟨w.heap.size + 1, x.toNat, none⟩ = some (.bool (cutset.data.toList.contains x)) := fun x => by
    rw [World.cell?_alloc_at _ _ _ _ (by simp), Lib.setCells_at]
  have hT := strings_trimLeftASCII s (w.heap.size + 1) cutset.data.toList _ hcellAt
  clear hcellAt
  have mixed : Tryd.prog.follows Departure.mixedOrders = true := by kernel_rfl
  go_enter Tryd.func58, Tryd.ntmps58
  go_wp2_with (go_at_call 77; refine hM.mono ?_; rintro e w' ⟨rfl, hw⟩; rw [hw])
  -- (the whole set goes into a variable of the function's own: that one step by hand: the authors', Derived/Shelf/Strings/IndexAnyAll.lean)
  refine hT.mono ?_
  rintro e w' ⟨rfl, hw⟩
  rw [hw]
  clear hM hsc
  go_wp2
  go_ret
  exact ⟨rfl, rfl⟩

set_option maxHeartbeats 8000000 in
set_option maxRecDepth 1000000 in
theorem strings_TrimRight_set (hv116 : ∀ w, (zeroValue 68).run Tryd.prog w = .ok (.agg (Array.replicate 256 (.bool false))) w) (hi116 : (Tryd.prog.info? 68).map (·.size) = some 256) (s cutset : ByteArray) (w : World) (h2 : 2 ≤ cutset.size) (h0 : 0 < s.size) (hs : s.size ≤ 9223372036854775807) (hcs : cutset.size < 4294967281)
    (hascii : ∀ (j : Nat) b, cutset.data.toList[j]? = some b → b.toNat < 128) :
    Calls Tryd.prog 59 #[.string s, .string cutset] w fun e w' => e = .returned (.string ⟨(Lib.trimRightS s.data.toList cutset.data.toList).toArray⟩) ∧ w' = ((w.alloc (.cells (Lib.setCells cutset.data.toList) 68)).alloc (.cells (Lib.setCells cutset.data.toList) 68)) := by
  have hM := strings_makeASCIISet hv116 hi116 cutset w hcs hascii
  clear hascii
  have hemp : cutset.toList.isEmpty = false := by
    rw [Lib.toList_data]
    cases h : cutset.data.toList with
    | nil => have := Lib.size_eq cutset; rw [h, List.length_nil] at this; omega
    | cons _ _ => rfl
  have hemps : s.toList.isEmpty = false := by
    rw [Lib.toList_data]
    cases h : s.data.toList with
    | nil => have := Lib.size_eq s; rw [h, List.length_nil] at this; omega
    | cons _ _ => rfl
  have hn1 : ((cutset.size : Int) == 1) = false := beq_eq_false_iff_ne.2 (by omega)
  have hsc : (storeCells ⟨w.heap.size + 1, 0, none⟩ (Lib.setCells cutset.data.toList).toList 0).run Tryd.prog ((w.alloc (.cells (Lib.setCells cutset.data.toList) 68)).alloc (.cells (Array.replicate 256 (.bool false)) 68)) = .ok () ((w.alloc (.cells (Lib.setCells cutset.data.toList) 68)).alloc (.cells (Lib.setCells cutset.data.toList) 68)) := by
    have := run_storeCells_new (P := Tryd.prog) (w.alloc (.cells (Lib.setCells cutset.data.toList) 68)) 68 (Array.replicate 256 (.bool false)) (Lib.setCells cutset.data.toList) (by rw [Lib.setCells_size]; exact hi116) (by rw [Lib.setCells_size, Array.size_replicate]) (Lib.setCells_one _)
    simpa using this
  have hsz := Lib.setCells_size cutset.data.toList
  have hcellAt : ∀ x : UInt8, ((w.alloc (.cells (Lib.setCells cutset.data.toList) 68)).alloc (.cells (Lib.setCells cutset.data.toList) 68)).cell? ⟨w.heap.size + 1, x.toNat, none⟩ = some (.bool (cutset.data.toList.contains x)) := fun x => by
    rw [World.cell?_alloc_at _ _ _ _ (by simp), Lib.setCells_at]
  have hT := strings_trimRightASCII s (w.heap.size + 1) cutset.data.toList _ hs hcellAt
  clear hcellAt
  have mixed : Tryd.prog.follows Departure.mixedOrders = true := by kernel_rfl
  go_enter Tryd.func59, Tryd.ntmps59
  go_wp2_with (go_at_call 77; refine hM.mono ?_; rintro e w' ⟨rfl, hw⟩; rw [hw])
  -- (the whole set goes into a variable of the function's own: that one step by hand: the authors', Derived/Shelf/Strings/IndexAnyAll.lean)
  refine hT.mono ?_
  rintro e w' ⟨rfl, hw⟩
  rw [hw]
  clear hM hsc
  go_wp2
  go_ret
  exact ⟨rfl, rfl⟩

set_option maxHeartbeats 8000000 in
set_option maxRecDepth 1000000 in
theorem strings_Trim_set (hv116 : ∀ w, (zeroValue 68).run Tryd.prog w = .ok (.agg (Array.replicate 256 (.bool false))) w) (hi116 : (Tryd.prog.info? 68).map (·.size) = some 256) (s cutset : ByteArray) (w : World) (h2 : 2 ≤ cutset.size) (h0 : 0 < s.size) (hs : s.size ≤ 9223372036854775807) (hcs : cutset.size < 4294967281)
    (hascii : ∀ (j : Nat) b, cutset.data.toList[j]? = some b → b.toNat < 128) :
    Calls Tryd.prog 60 #[.string s, .string cutset] w fun e w' => e = .returned (.string ⟨(Lib.trimS s.data.toList cutset.data.toList).toArray⟩) ∧ ∃ q, w' = ((w.alloc (.cells (Lib.setCells cutset.data.toList) 68)).alloc (.cells (Lib.setCells cutset.data.toList) 68)).drewN q := by
  have hM := strings_makeASCIISet hv116 hi116 cutset w hcs hascii
  clear hascii
  have hemp : cutset.toList.isEmpty = false := by
    rw [Lib.toList_data]
    cases h : cutset.data.toList with
    | nil => have := Lib.size_eq cutset; rw [h, List.length_nil] at this; omega
    | cons _ _ => rfl
  have hemps : s.toList.isEmpty = false := by
    rw [Lib.toList_data]
    cases h : s.data.toList with
    | nil => have := Lib.size_eq s; rw [h, List.length_nil] at this; omega
    | cons _ _ => rfl
  have hn1 : ((cutset.size : Int) == 1) = false := beq_eq_false_iff_ne.2 (by omega)
  have hsc : (storeCells ⟨w.heap.size + 1, 0, none⟩ (Lib.setCells cutset.data.toList).toList 0).run Tryd.prog ((w.alloc (.cells (Lib.setCells cutset.data.toList) 68)).alloc (.cells (Array.replicate 256 (.bool false)) 68)) = .ok () ((w.alloc (.cells (Lib.setCells cutset.data.toList) 68)).alloc (.cells (Lib.setCells cutset.data.toList) 68)) := by
    have := run_storeCells_new (P := Tryd.prog) (w.alloc (.cells (Lib.setCells cutset.data.toList) 68)) 68 (Array.replicate 256 (.bool false)) (Lib.setCells cutset.data.toList) (by rw [Lib.setCells_size]; exact hi116) (by rw [Lib.setCells_size, Array.size_replicate]) (Lib.setCells_one _)
    simpa using this
  have hsz := Lib.setCells_size cutset.data.toList
  have hcellAt : ∀ x : UInt8, ((w.alloc (.cells (Lib.setCells cutset.data.toList) 68)).alloc (.cells (Lib.setCells cutset.data.toList) 68)).cell? ⟨w.heap.size + 1, x.toNat, none⟩ = some (.bool (cutset.data.toList.contains x)) := fun x => by
    rw [World.cell?_alloc_at _ _ _ _ (by simp), Lib.setCells_at]
  have HC : Aside (∀ (q : Nat) (x : UInt8), (((w.alloc (.cells (Lib.setCells cutset.data.toList) 68)).alloc (.cells (Lib.setCells cutset.data.toList) 68)).drewN q).cell? ⟨w.heap.size + 1, x.toNat, none⟩ = some (.bool (cutset.data.toList.contains x))) := fun q x => by simpa using hcellAt x
  clear hcellAt
  have mixed : Tryd.prog.follows Departure.mixedOrders = true := by kernel_rfl
  go_enter Tryd.func60, Tryd.ntmps60
  go_wp2_with (go_at_call 77; refine hM.mono ?_; rintro e w' ⟨rfl, hw⟩; rw [hw])
  -- (the whole set goes into a variable of the function's own: that one step by hand: the authors', Derived/Shelf/Strings/IndexAnyAll.lean)
  go_wp2_with (first
    | (go_at_call 99; refine (strings_trimRightASCII s (w.heap.size + 1) cutset.data.toList _ hs (HC.out 0)).mono ?_; rintro e w' ⟨rfl, hw⟩; rw [hw])
    | (go_at_call 96; refine (strings_trimLeftASCII _ (w.heap.size + 1) cutset.data.toList _ (HC.out 0)).mono ?_; rintro e w' ⟨rfl, hw⟩; rw [hw]))
  go_ret
  exact ⟨rfl, 0, rfl⟩

set_option maxHeartbeats 8000000 in
set_option maxRecDepth 1000000 in
theorem strings_TrimLeft_empty (s cutset : ByteArray) (w : World) (h : s.size = 0 ∨ cutset.size = 0) :
    Calls Tryd.prog 58 #[.string s, .string cutset] w fun e w' => e = .returned (.string s) ∧ w' = w := by
  have emp : ∀ t : ByteArray, t.size = 0 → t.toList.isEmpty = true := fun t ht => by
    rw [Lib.toList_data]
    cases h' : t.data.toList with
    | nil => rfl
    | cons _ _ => have := Lib.size_eq t; rw [h', List.length_cons] at this; omega
  by_cases hs0 : s.size = 0
  · have he := emp s hs0
    go_enter Tryd.func58, Tryd.ntmps58
    go_wp2
    all_goals first | (go_ret; exact ⟨rfl, rfl⟩) | (exfalso; simp_all)
  · have hc0 : cutset.size = 0 := h.resolve_left hs0
    have he := emp cutset hc0
    have hne : s.toList.isEmpty = false := by
      rw [Lib.toList_data]
      cases h' : s.data.toList with
      | nil => have := Lib.size_eq s; rw [h', List.length_nil] at this; omega
      | cons _ _ => rfl
    go_enter Tryd.func58, Tryd.ntmps58
    go_wp2
    all_goals first | (go_ret; exact ⟨rfl, rfl⟩) | (exfalso; simp_all)

set_option maxHeartbeats 8000000 in
set_option maxRecDepth 1000000 in
theorem strings_TrimRight_empty (s cutset : ByteArray) (w : World) (h : s.size = 0 ∨ cutset.size = 0) :
    Calls Tryd.prog 59 #[.string s, .string cutset] w fun e w' => e = .returned (.string s) ∧ w' = w := by
  have emp : ∀ t : ByteArray, t.size = 0 → t.toList.isEmpty = true := fun t ht => by
    rw [Lib.toList_data]
    cases h' : t.data.toList with
    | nil => rfl
    | cons _ _ => have := Lib.size_eq t; rw [h', List.length_cons] at this; omega
  by_cases hs0 : s.size = 0
  · have he := emp s hs0
    go_enter Tryd.func59, Tryd.ntmps59
    go_wp2
    all_goals first | (go_ret; exact ⟨rfl, rfl⟩) | (exfalso; simp_all)
  · have hc0 : cutset.size = 0 := h.resolve_left hs0
    have he := emp cutset hc0
    have hne : s.toList.isEmpty = false := by
      rw [Lib.toList_data]
      cases h' : s.data.toList with
      | nil => have := Lib.size_eq s; rw [h', List.length_nil] at this; omega
      | cons _ _ => rfl
    go_enter Tryd.func59, Tryd.ntmps59
    go_wp2
    all_goals first | (go_ret; exact ⟨rfl, rfl⟩) | (exfalso; simp_all)

set_option maxHeartbeats 8000000 in
set_option maxRecDepth 1000000 in
theorem strings_Trim_empty (s cutset : ByteArray) (w : World) (h : s.size = 0 ∨ cutset.size = 0) :
    Calls Tryd.prog 60 #[.string s, .string cutset] w fun e w' => e = .returned (.string s) ∧ w' = w := by
  have emp : ∀ t : ByteArray, t.size = 0 → t.toList.isEmpty = true := fun t ht => by
    rw [Lib.toList_data]
    cases h' : t.data.toList with
    | nil => rfl
    | cons _ _ => have := Lib.size_eq t; rw [h', List.length_cons] at this; omega
  by_cases hs0 : s.size = 0
  · have he := emp s hs0
    go_enter Tryd.func60, Tryd.ntmps60
    go_wp2
    all_goals first | (go_ret; exact ⟨rfl, rfl⟩) | (exfalso; simp_all)
  · have hc0 : cutset.size = 0 := h.resolve_left hs0
    have he := emp cutset hc0
    have hne : s.toList.isEmpty = false := by
      rw [Lib.toList_data]
      cases h' : s.data.toList with
      | nil => have := Lib.size_eq s; rw [h', List.length_nil] at this; omega
      | cons _ _ => rfl
    go_enter Tryd.func60, Tryd.ntmps60
    go_wp2
    all_goals first | (go_ret; exact ⟨rfl, rfl⟩) | (exfalso; simp_all)

end Go.Proofs.YthnbifkcbeldmaaDoor
