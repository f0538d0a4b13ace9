/- gobytes.Trim, TrimLeft, TrimRight at an ASCII cutset (after the library's own walks of package bytes, turned to this program). -/
import Derived.Test.YthnbifkcbeldmaaDoorTrimA
import Derived.Shelf.Bytes.SlTrim
namespace Go.Proofs.YthnbifkcbeldmaaDoor
open Go.Shelf Go.RowKit
set_option linter.unusedVariables false

set_option maxHeartbeats 8000000 in
set_option maxRecDepth 1000000 in
theorem bytes_makeASCIISet (hv27 : ∀ w, (zeroValue 61).run Tryd.prog w = .ok (.agg (Array.replicate 256 (.bool false))) w) (hi27 : (Tryd.prog.info? 61).map (·.size) = some 256) (chars : ByteArray) (w : World) (hs : chars.size < 4294967281)
    (hascii : ∀ (j : Nat) b, chars.data.toList[j]? = some b → b.toNat < 128) :
    Calls Tryd.prog 69 #[.string chars] w fun e w' => e = .returned (.tuple #[.agg (Lib.setCells chars.data.toList), .bool true]) ∧ w' = w.alloc (.cells (Lib.setCells chars.data.toList) 61) := by
  have mixed : Tryd.prog.follows Departure.mixedOrders = true := by kernel_rfl
  have HA : Aside (∀ (j : Nat) b, chars.data.toList[j]? = some b → b.toNat < 128) := hascii
  clear hascii
  go_enter Tryd.func69, Tryd.ntmps69
  go_wp2
  rw [← Lib.setCells_nil]
  go_loopg [4] chars.size (fun g s4 wx => ∃ i : Nat, i + g = chars.size ∧ s4 = .int .i64 i ∧ wx = w.alloc (.cells (Lib.setCells (chars.data.toList.take i)) 61))
  case atStart => exact ⟨0, by omega, rfl, rfl⟩
  case round =>
    obtain ⟨i, hig, rfl, rfl⟩ := hrel
    cases gk with
    | zero =>
      obtain rfl : i = chars.size := by omega
      have hiz : ¬ ((chars.size : Int) < (chars.size : Int)) := by omega
      rw [show chars.data.toList.take chars.size = chars.data.toList from List.take_of_length_le (by rw [← Lib.size_eq]; exact Nat.le_refl _)]
      have hld := run_loadVar_new (P := Tryd.prog) w 61 (Lib.setCells chars.data.toList) 256 4 Tryd.underlying61 (by rw [Lib.setCells_size]; exact hi27)
      have hsz := Lib.setCells_size chars.data.toList
      have hlc := run_loadCellsFrom_new (P := Tryd.prog) w 61 (Lib.setCells chars.data.toList) 256 hsz
      have hsc := run_storeCells_new (P := Tryd.prog) w 61 (Lib.setCells chars.data.toList) (Lib.setCells chars.data.toList) (by rw [hsz]; exact hi27) rfl (Lib.setCells_one _)
      -- (✋ 'isAgg', 'sizeOf' of [256]bool are kept OUT of the walk's context: with them its simp opens the load into 256 loads. The walk stops at the operation; that one step by hand.)
      go_wp2
      refine oper_load 61 (.tmp 2) rfl ⟨w.heap.size, 0, none⟩ rfl _ hld ?_
      go_wp2
      (try simp only [Exit.inBlock, Exit.then])
      refine bodyPost_ret (v := .tuple #[.agg (Lib.setCells chars.data.toList), .bool true]) ?_ rfl ⟨rfl, rfl⟩
      rw [results_cell_tmp rfl]
      simp [asAddr, Result.andThen, hld]
    | succ g =>
      have hi : i < chars.size := by omega
      have hiz : (i : Int) < (chars.size : Int) := by omega
      obtain ⟨x, hx⟩ : ∃ x : UInt8, chars[i]'hi = x := ⟨_, rfl⟩
      have hxl : chars.data.toList[i]? = some x := by rw [← hx]; exact Lib.data_getElem? chars i hi
      have hx128 : ¬ ((128 : Int) ≤ (x.toNat : Int)) := by have := HA.out i x hxl; omega
      have hx256 : (x.toNat : Int) < 256 := by have := HA.out i x hxl; omega
      have hcell := Lib.setCells_at (chars.data.toList.take i) x
      have Hx : Aside (chars.data.toList[i]? = some x) := hxl
      clear hxl
      go_wp2
      go_roundg g
      case measure => omega
      case rel => exact ⟨i + 1, by omega, by first | rfl | simp, by rw [List.take_add_one, Hx.out]; simp only [Option.toList]; rw [Lib.setCells_snoc]⟩
set_option maxHeartbeats 8000000 in
set_option maxRecDepth 1000000 in
theorem bytes_asciiSet_contains (b : Nat) (x : UInt8) (v : Bool) (w : World) (hc : w.cell? ⟨b, x.toNat, none⟩ = some (.bool v)) :
    Calls Tryd.prog 108 #[.pointer (some ⟨b, 0, none⟩), .int .u8 x.toNat] w fun e w' => e = .returned (.bool v) ∧ w' = w := by
  have mixed : Tryd.prog.follows Departure.mixedOrders = true := by kernel_rfl
  have hx256 : (x.toNat : Int) < 256 := by have := UInt8.toNat_lt x; omega
  go_enter Tryd.func108, Tryd.ntmps108
  go_wp2
  go_ret
  exact ⟨rfl, rfl⟩
set_option maxHeartbeats 8000000 in
set_option maxRecDepth 1000000 in
theorem bytes_trimRightASCII (p : Option Addr) (n c : Nat) (bs : List UInt8) (b : Nat) (cs : List UInt8) (w : World) (hb : bs.length = n) (hnc : n ≤ c) (hbig : n ≤ 9223372036854775807) (h1 : Lib.BytesAt w p n bs) (hset : ∀ x : UInt8, w.cell? ⟨b, x.toNat, none⟩ = some (.bool (cs.contains x))) :
    Calls Tryd.prog 73 #[.slice p n c, .pointer (some ⟨b, 0, none⟩)] w fun e w' => e = .returned (.slice p (Lib.trimRightS bs cs).length c) ∧ w' = w := by
  have mixed : Tryd.prog.follows Departure.mixedOrders = true := by kernel_rfl
  have HS : Aside _ := hset
  clear hset
  have H1 : Aside _ := h1
  clear h1
  generalize hres : (Lib.trimRightS bs cs).length = res
  have RES : Aside ((Lib.trimRightS bs cs).length = res) := hres
  clear hres
  go_enter Tryd.func73, Tryd.ntmps73
  go_wp2
  go_loopg [0] n (fun kx s0 wr => ∃ k : Nat, k ≤ n ∧ k ≤ kx ∧ s0 = .slice p k c ∧ wr = w ∧ Aside (∀ (j : Nat) y, k ≤ j → bs[j]? = some y → cs.contains y = true))
  case atStart =>
    have I0 : Aside (∀ (j : Nat) y, n ≤ j → bs[j]? = some y → cs.contains y = true) := fun j y hj hy => by
      rw [List.getElem?_eq_none (by omega)] at hy
      cases hy
    exact ⟨n, Nat.le_refl _, Nat.le_refl _, rfl, rfl, I0⟩
  case round =>
    obtain ⟨k, hkn, hkx, rfl, rfl, I⟩ := hrel
    by_cases h0 : 0 < k
    · obtain ⟨t, rfl⟩ : ∃ t, k = t + 1 := ⟨k - 1, by omega⟩
      obtain ⟨blk, o, rfl, hc⟩ := H1.out (by omega)
      have hct := hc t (by omega)
      obtain ⟨x, hx⟩ : ∃ x, x = bs.getD t 0 := ⟨_, rfl⟩
      rw [← hx] at hct
      have hxl : bs[t]? = some x := by rw [hx]; exact Lib.getElem?_getD_sl _ _ _ (by omega)
      have HX : Aside (bs[t]? = some x) := hxl
      clear hx hxl hc
      have hqz : ((t + 1 : Nat) : Int) = (t : Int) + 1 := by omega
      have htz : ((t : Int)).toNat = t := by omega
      have htc : (t : Int) < ((t : Int) + 1) := by omega
      cases hin : cs.contains x with
      | false =>
        have hcx := HS.out x
        rw [hin] at hcx
        have HI : Aside (cs.contains x = false) := hin
        clear hin
        go_wp2_with (go_at_call 108; refine (bytes_asciiSet_contains _ x _ _ hcx).mono ?_; rintro e w' ⟨rfl, hw⟩; rw [hw])
        go_ret
        refine ⟨?_, rfl⟩
        have : res = t + 1 := by
          rw [← RES.out, Lib.trimRightS_take bs cs (t + 1) (by omega) I.out (fun y _ hy => by rw [show t + 1 - 1 = t from rfl, HX.out] at hy; rw [← Option.some.inj hy]; exact HI.out), List.length_take]
          omega
        rw [this]
        first | rfl | simp
      | true =>
        have hcx := HS.out x
        rw [hin] at hcx
        have HI : Aside (cs.contains x = true) := hin
        clear hin
        go_wp2_with (go_at_call 108; refine (bytes_asciiSet_contains _ x _ _ hcx).mono ?_; rintro e w' ⟨rfl, hw⟩; rw [hw])
        go_roundg t
        case measure => omega
        case rel =>
          have I2 : Aside (∀ (j : Nat) y, t ≤ j → bs[j]? = some y → cs.contains y = true) := fun j y hj hy => by
            by_cases e : j = t
            · subst e; rw [HX.out] at hy; rw [← Option.some.inj hy]; exact HI.out
            · exact I.out j y (by omega) hy
          exact ⟨t, by omega, Nat.le_refl _, by first | rfl | simp, rfl, I2⟩
    · obtain rfl : k = 0 := by omega
      go_wp2
      go_ret
      refine ⟨?_, rfl⟩
      have : res = 0 := by rw [← RES.out, Lib.trimRightS_take bs cs 0 (Nat.zero_le _) I.out (fun y h _ => absurd h (Nat.lt_irrefl _))]; rfl
      rw [this]
      first | rfl | simp
set_option maxHeartbeats 8000000 in
set_option maxRecDepth 1000000 in
theorem bytes_trimRightByte (p : Option Addr) (n c : Nat) (bs : List UInt8) (cc : UInt8) (w : World) (hb : bs.length = n) (hnc : n ≤ c) (hbig : n ≤ 9223372036854775807) (h1 : Lib.BytesAt w p n bs) :
    Calls Tryd.prog 72 #[.slice p n c, .int .u8 cc.toNat] w fun e w' => e = .returned (.slice p (Lib.trimRightS bs [cc]).length c) ∧ w' = w := by
  have mixed : Tryd.prog.follows Departure.mixedOrders = true := by kernel_rfl
  have H1 : Aside _ := h1
  clear h1
  generalize hres : (Lib.trimRightS bs [cc]).length = res
  have RES : Aside ((Lib.trimRightS bs [cc]).length = res) := hres
  clear hres
  go_enter Tryd.func72, Tryd.ntmps72
  go_wp2
  go_loopg [0] n (fun kx s0 wr => ∃ k : Nat, k ≤ n ∧ k ≤ kx ∧ s0 = .slice p k c ∧ wr = w ∧ Aside (∀ (j : Nat) y, k ≤ j → bs[j]? = some y → [cc].contains y = true))
  case atStart =>
    have I0 : Aside (∀ (j : Nat) y, n ≤ j → bs[j]? = some y → [cc].contains y = true) := fun j y hj hy => by
      rw [List.getElem?_eq_none (by omega)] at hy
      cases hy
    exact ⟨n, Nat.le_refl _, Nat.le_refl _, rfl, rfl, I0⟩
  case round =>
    obtain ⟨k, hkn, hkx, rfl, rfl, I⟩ := hrel
    by_cases h0 : 0 < k
    · obtain ⟨t, rfl⟩ : ∃ t, k = t + 1 := ⟨k - 1, by omega⟩
      obtain ⟨blk, o, rfl, hc⟩ := H1.out (by omega)
      have hct := hc t (by omega)
      obtain ⟨x, hx⟩ : ∃ x, x = bs.getD t 0 := ⟨_, rfl⟩
      rw [← hx] at hct
      have hxl : bs[t]? = some x := by rw [hx]; exact Lib.getElem?_getD_sl _ _ _ (by omega)
      have HX : Aside (bs[t]? = some x) := hxl
      clear hx hxl hc
      have hqz : ((t + 1 : Nat) : Int) = (t : Int) + 1 := by omega
      have htz : ((t : Int)).toNat = t := by omega
      have htc : (t : Int) < ((t : Int) + 1) := by omega
      cases hin : [cc].contains x with
      | false =>
        have hxe : ¬ (x.toNat : Int) = (cc.toNat : Int) := fun e => by rw [Lib.contains_one] at hin; have : x = cc := UInt8.toNat_inj.1 (by exact_mod_cast e); rw [this] at hin; simp at hin
        have hbe : ((x.toNat : Int) == (cc.toNat : Int)) = false := by simpa using hxe
        have HI : Aside ([cc].contains x = false) := hin
        clear hin
        go_wp2
        go_ret
        refine ⟨?_, rfl⟩
        have : res = t + 1 := by
          rw [← RES.out, Lib.trimRightS_take bs [cc] (t + 1) (by omega) I.out (fun y _ hy => by rw [show t + 1 - 1 = t from rfl, HX.out] at hy; rw [← Option.some.inj hy]; exact HI.out), List.length_take]
          omega
        rw [this]
        first | rfl | simp
      | true =>
        have hxe : (x.toNat : Int) = (cc.toNat : Int) := by rw [Lib.contains_one] at hin; rw [eq_of_beq hin]
        have HI : Aside ([cc].contains x = true) := hin
        clear hin
        go_wp2
        go_roundg t
        case measure => omega
        case rel =>
          have I2 : Aside (∀ (j : Nat) y, t ≤ j → bs[j]? = some y → [cc].contains y = true) := fun j y hj hy => by
            by_cases e : j = t
            · subst e; rw [HX.out] at hy; rw [← Option.some.inj hy]; exact HI.out
            · exact I.out j y (by omega) hy
          exact ⟨t, by omega, Nat.le_refl _, by first | rfl | simp, rfl, I2⟩
    · obtain rfl : k = 0 := by omega
      go_wp2
      go_ret
      refine ⟨?_, rfl⟩
      have : res = 0 := by rw [← RES.out, Lib.trimRightS_take bs [cc] 0 (Nat.zero_le _) I.out (fun y h _ => absurd h (Nat.lt_irrefl _))]; rfl
      rw [this]
      first | rfl | simp
set_option maxHeartbeats 8000000 in
set_option maxRecDepth 1000000 in
theorem bytes_trimLeftASCII (p : Option Addr) (n c : Nat) (bs : List UInt8) (b : Nat) (cs : List UInt8) (w : World) (hb : bs.length = n) (hnc : n ≤ c) (hbig : c ≤ 9223372036854775807) (h1 : Lib.BytesAt w p n bs) (hset : ∀ x : UInt8, w.cell? ⟨b, x.toNat, none⟩ = some (.bool (cs.contains x))) :
    Calls Tryd.prog 70 #[.slice p n c, .pointer (some ⟨b, 0, none⟩)] w fun e w' => e = .returned (Lib.leftV p n c (n - (Lib.trimLeftS bs cs).length)) ∧ w' = w := by
  have mixed : Tryd.prog.follows Departure.mixedOrders = true := by kernel_rfl
  have HS : Aside _ := hset
  clear hset
  have H1 : Aside _ := h1
  clear h1
  generalize hres : Lib.leftV p n c (n - (Lib.trimLeftS bs cs).length) = res
  have RES : Aside (Lib.leftV p n c (n - (Lib.trimLeftS bs cs).length) = res) := hres
  clear hres
  go_enter Tryd.func70, Tryd.ntmps70
  go_wp2
  go_loopg [0] n (fun kx s0 wr => ∃ (j : Nat) (pa : Option Addr), j ≤ n ∧ n - j ≤ kx ∧ s0 = .slice pa (n - j) (c - j) ∧ wr = w ∧ Aside ((j < n → pa = p.map (fun a => a.add j)) ∧ ∀ (i : Nat) y, i < j → bs[i]? = some y → cs.contains y = true))
  case atStart =>
    have I0 : Aside ((0 < n → p = p.map (fun a => a.add 0)) ∧ ∀ (i : Nat) y, i < 0 → bs[i]? = some y → cs.contains y = true) := ⟨fun _ => (map_add_zero p).symm, fun i y hi => absurd hi (Nat.not_lt_zero _)⟩
    exact ⟨0, p, Nat.zero_le _, by omega, rfl, rfl, I0⟩
  case round =>
    obtain ⟨j, pa, hjn, hkx, rfl, rfl, I⟩ := hrel
    by_cases h0 : j < n
    · obtain ⟨blk, o, rfl, hc⟩ := H1.out (by omega)
      obtain rfl : pa = some ⟨blk, o + j, none⟩ := by rw [I.out.1 h0]; simp [WideShapes.add_plain]
      have hct := hc j h0
      obtain ⟨x, hx⟩ : ∃ x, x = bs.getD j 0 := ⟨_, rfl⟩
      rw [← hx] at hct
      have hxl : bs[j]? = some x := by rw [hx]; exact Lib.getElem?_getD_sl _ _ _ (by omega)
      have HX : Aside (bs[j]? = some x) := hxl
      clear hx hxl hc
      obtain ⟨m, hm⟩ : ∃ m, n - j = m + 1 := ⟨n - j - 1, by omega⟩
      obtain ⟨cm, hcm⟩ : ∃ cm, c - j = cm + 1 := ⟨c - j - 1, by omega⟩
      rw [hm, hcm]
      have hmc : m ≤ cm := by omega
      have hcb : cm + 1 ≤ 9223372036854775807 := by omega
      cases hin : cs.contains x with
      | false =>
        have hcx := HS.out x
        rw [hin] at hcx
        have HI : Aside (cs.contains x = false) := hin
        clear hin
        go_wp2_with (go_at_call 108; refine (bytes_asciiSet_contains _ x _ _ hcx).mono ?_; rintro e w' ⟨rfl, hw⟩; rw [hw])
        go_ret
        refine ⟨?_, rfl⟩
        have hl : (Lib.trimLeftS bs cs).length = n - j := by
          rw [Lib.trimLeftS_drop bs cs j (by omega) I.out.2 (fun y hy => by rw [HX.out] at hy; rw [← Option.some.inj hy]; exact HI.out), List.length_drop, hb]
        have : res = .slice (some ⟨blk, o + j, none⟩) (m + 1) (cm + 1) := by
          rw [← RES.out, hl, show n - (n - j) = j by omega]
          unfold Lib.leftV Lib.fromV
          rw [if_neg (by omega), if_neg (by omega), hm, hcm]
          simp [WideShapes.add_plain]
        rw [this]
        first | rfl | simp
      | true =>
        have hcx := HS.out x
        rw [hin] at hcx
        have HI : Aside (cs.contains x = true) := hin
        clear hin
        by_cases hcm0 : cm = 0
        · subst hcm0
          obtain rfl : m = 0 := by omega
          go_wp2_with (go_at_call 108; refine (bytes_asciiSet_contains _ x _ _ hcx).mono ?_; rintro e w' ⟨rfl, hw⟩; rw [hw])
          go_roundg 0
          case measure => omega
          case rel =>
            have I2 : ∀ (i : Nat) y, i < j + 1 → bs[i]? = some y → cs.contains y = true := fun i y hi hy => by
              by_cases e : i = j
              · subst e; rw [HX.out] at hy; rw [← Option.some.inj hy]; exact HI.out
              · exact I.out.2 i y (by omega) hy
            have I3 : Aside ((j + 1 < n → some (⟨blk, o + j, none⟩ : Addr) = (some (⟨blk, o, none⟩ : Addr)).map (fun a => a.add (j + 1))) ∧ ∀ (i : Nat) y, i < j + 1 → bs[i]? = some y → cs.contains y = true) := ⟨fun h => by exfalso; omega, I2⟩
            exact ⟨j + 1, some ⟨blk, o + j, none⟩, by omega, by omega, by rw [show n - (j + 1) = 0 by omega, show c - (j + 1) = 0 by omega], rfl, I3⟩
        · have hcm1 : ¬ cm + 1 = 1 := by omega
          go_wp2_with (go_at_call 108; refine (bytes_asciiSet_contains _ x _ _ hcx).mono ?_; rintro e w' ⟨rfl, hw⟩; rw [hw])
          go_roundg m
          case measure => omega
          case rel =>
            have I2 : ∀ (i : Nat) y, i < j + 1 → bs[i]? = some y → cs.contains y = true := fun i y hi hy => by
              by_cases e : i = j
              · subst e; rw [HX.out] at hy; rw [← Option.some.inj hy]; exact HI.out
              · exact I.out.2 i y (by omega) hy
            have I3 : Aside ((j + 1 < n → some (⟨blk, o + j + 1, none⟩ : Addr) = (some (⟨blk, o, none⟩ : Addr)).map (fun a => a.add (j + 1))) ∧ ∀ (i : Nat) y, i < j + 1 → bs[i]? = some y → cs.contains y = true) := ⟨fun _ => by simp [WideShapes.add_plain, Nat.add_assoc], I2⟩
            exact ⟨j + 1, some ⟨blk, o + j + 1, none⟩, by omega, by omega, by rw [show n - (j + 1) = m by omega, show c - (j + 1) = cm by omega], rfl, I3⟩
    · obtain rfl : j = n := by omega
      rw [Nat.sub_self]
      go_wp2
      go_ret
      refine ⟨?_, rfl⟩
      have hl : (Lib.trimLeftS bs cs).length = 0 := by
        rw [Lib.trimLeftS_drop bs cs j (by omega) I.out.2 (fun y hy => by rw [List.getElem?_eq_none (by omega)] at hy; cases hy), List.length_drop, hb, Nat.sub_self]
      have : res = .slice none 0 0 := by rw [← RES.out, hl]; unfold Lib.leftV; rw [if_pos (by omega)]
      rw [this]
      first | rfl | simp
set_option maxHeartbeats 8000000 in
set_option maxRecDepth 1000000 in
theorem bytes_trimLeftByte (p : Option Addr) (n c : Nat) (bs : List UInt8) (cc : UInt8) (w : World) (hb : bs.length = n) (hnc : n ≤ c) (hbig : c ≤ 9223372036854775807) (h1 : Lib.BytesAt w p n bs) :
    Calls Tryd.prog 68 #[.slice p n c, .int .u8 cc.toNat] w fun e w' => e = .returned (Lib.leftV p n c (n - (Lib.trimLeftS bs [cc]).length)) ∧ w' = w := by
  have mixed : Tryd.prog.follows Departure.mixedOrders = true := by kernel_rfl
  have H1 : Aside _ := h1
  clear h1
  generalize hres : Lib.leftV p n c (n - (Lib.trimLeftS bs [cc]).length) = res
  have RES : Aside (Lib.leftV p n c (n - (Lib.trimLeftS bs [cc]).length) = res) := hres
  clear hres
  go_enter Tryd.func68, Tryd.ntmps68
  go_wp2
  go_loopg [0] n (fun kx s0 wr => ∃ (j : Nat) (pa : Option Addr), j ≤ n ∧ n - j ≤ kx ∧ s0 = .slice pa (n - j) (c - j) ∧ wr = w ∧ Aside ((j < n → pa = p.map (fun a => a.add j)) ∧ ∀ (i : Nat) y, i < j → bs[i]? = some y → [cc].contains y = true))
  case atStart =>
    have I0 : Aside ((0 < n → p = p.map (fun a => a.add 0)) ∧ ∀ (i : Nat) y, i < 0 → bs[i]? = some y → [cc].contains y = true) := ⟨fun _ => (map_add_zero p).symm, fun i y hi => absurd hi (Nat.not_lt_zero _)⟩
    exact ⟨0, p, Nat.zero_le _, by omega, rfl, rfl, I0⟩
  case round =>
    obtain ⟨j, pa, hjn, hkx, rfl, rfl, I⟩ := hrel
    by_cases h0 : j < n
    · obtain ⟨blk, o, rfl, hc⟩ := H1.out (by omega)
      obtain rfl : pa = some ⟨blk, o + j, none⟩ := by rw [I.out.1 h0]; simp [WideShapes.add_plain]
      have hct := hc j h0
      obtain ⟨x, hx⟩ : ∃ x, x = bs.getD j 0 := ⟨_, rfl⟩
      rw [← hx] at hct
      have hxl : bs[j]? = some x := by rw [hx]; exact Lib.getElem?_getD_sl _ _ _ (by omega)
      have HX : Aside (bs[j]? = some x) := hxl
      clear hx hxl hc
      obtain ⟨m, hm⟩ : ∃ m, n - j = m + 1 := ⟨n - j - 1, by omega⟩
      obtain ⟨cm, hcm⟩ : ∃ cm, c - j = cm + 1 := ⟨c - j - 1, by omega⟩
      rw [hm, hcm]
      have hmc : m ≤ cm := by omega
      have hcb : cm + 1 ≤ 9223372036854775807 := by omega
      cases hin : [cc].contains x with
      | false =>
        have hxe : ¬ (x.toNat : Int) = (cc.toNat : Int) := fun e => by rw [Lib.contains_one] at hin; have : x = cc := UInt8.toNat_inj.1 (by exact_mod_cast e); rw [this] at hin; simp at hin
        have hbe : ((x.toNat : Int) == (cc.toNat : Int)) = false := by simpa using hxe
        have HI : Aside ([cc].contains x = false) := hin
        clear hin
        go_wp2
        go_ret
        refine ⟨?_, rfl⟩
        have hl : (Lib.trimLeftS bs [cc]).length = n - j := by
          rw [Lib.trimLeftS_drop bs [cc] j (by omega) I.out.2 (fun y hy => by rw [HX.out] at hy; rw [← Option.some.inj hy]; exact HI.out), List.length_drop, hb]
        have : res = .slice (some ⟨blk, o + j, none⟩) (m + 1) (cm + 1) := by
          rw [← RES.out, hl, show n - (n - j) = j by omega]
          unfold Lib.leftV Lib.fromV
          rw [if_neg (by omega), if_neg (by omega), hm, hcm]
          simp [WideShapes.add_plain]
        rw [this]
        first | rfl | simp
      | true =>
        have hxe : (x.toNat : Int) = (cc.toNat : Int) := by rw [Lib.contains_one] at hin; rw [eq_of_beq hin]
        have HI : Aside ([cc].contains x = true) := hin
        clear hin
        by_cases hcm0 : cm = 0
        · subst hcm0
          obtain rfl : m = 0 := by omega
          go_wp2
          go_roundg 0
          case measure => omega
          case rel =>
            have I2 : ∀ (i : Nat) y, i < j + 1 → bs[i]? = some y → [cc].contains y = true := fun i y hi hy => by
              by_cases e : i = j
              · subst e; rw [HX.out] at hy; rw [← Option.some.inj hy]; exact HI.out
              · exact I.out.2 i y (by omega) hy
            have I3 : Aside ((j + 1 < n → some (⟨blk, o + j, none⟩ : Addr) = (some (⟨blk, o, none⟩ : Addr)).map (fun a => a.add (j + 1))) ∧ ∀ (i : Nat) y, i < j + 1 → bs[i]? = some y → [cc].contains y = true) := ⟨fun h => by exfalso; omega, I2⟩
            exact ⟨j + 1, some ⟨blk, o + j, none⟩, by omega, by omega, by rw [show n - (j + 1) = 0 by omega, show c - (j + 1) = 0 by omega], rfl, I3⟩
        · have hcm1 : ¬ cm + 1 = 1 := by omega
          go_wp2
          go_roundg m
          case measure => omega
          case rel =>
            have I2 : ∀ (i : Nat) y, i < j + 1 → bs[i]? = some y → [cc].contains y = true := fun i y hi hy => by
              by_cases e : i = j
              · subst e; rw [HX.out] at hy; rw [← Option.some.inj hy]; exact HI.out
              · exact I.out.2 i y (by omega) hy
            have I3 : Aside ((j + 1 < n → some (⟨blk, o + j + 1, none⟩ : Addr) = (some (⟨blk, o, none⟩ : Addr)).map (fun a => a.add (j + 1))) ∧ ∀ (i : Nat) y, i < j + 1 → bs[i]? = some y → [cc].contains y = true) := ⟨fun _ => by simp [WideShapes.add_plain, Nat.add_assoc], I2⟩
            exact ⟨j + 1, some ⟨blk, o + j + 1, none⟩, by omega, by omega, by rw [show n - (j + 1) = m by omega, show c - (j + 1) = cm by omega], rfl, I3⟩
    · obtain rfl : j = n := by omega
      rw [Nat.sub_self]
      go_wp2
      go_ret
      refine ⟨?_, rfl⟩
      have hl : (Lib.trimLeftS bs [cc]).length = 0 := by
        rw [Lib.trimLeftS_drop bs [cc] j (by omega) I.out.2 (fun y hy => by rw [List.getElem?_eq_none (by omega)] at hy; cases hy), List.length_drop, hb, Nat.sub_self]
      have : res = .slice none 0 0 := by rw [← RES.out, hl]; unfold Lib.leftV; rw [if_pos (by omega)]
      rw [this]
      first | rfl | simp
set_option maxHeartbeats 8000000 in
set_option maxRecDepth 1000000 in
theorem bytes_TrimRight_set (hv27 : ∀ w, (zeroValue 61).run Tryd.prog w = .ok (.agg (Array.replicate 256 (.bool false))) w) (hi27 : (Tryd.prog.info? 61).map (·.size) = some 256) (p : Option Addr) (n c : Nat) (bs : List UInt8) (cutset : ByteArray) (w : World)
    (hb : bs.length = n) (hnc : n ≤ c) (hbig : c ≤ 9223372036854775807) (h1 : Lib.BytesAt w p n bs) (h2 : 2 ≤ cutset.size) (h0 : 0 < n) (hcs : cutset.size < 4294967281) (hascii : ∀ (j : Nat) b, cutset.data.toList[j]? = some b → b.toNat < 128) :
    Calls Tryd.prog 46 #[.slice p n c, .string cutset] w fun e w' => e = .returned (.slice p (Lib.trimRightS bs cutset.data.toList).length c) ∧ w' = ((w.alloc (.cells (Lib.setCells cutset.data.toList) 61)).alloc (.cells (Lib.setCells cutset.data.toList) 61)) := by
  have mixed : Tryd.prog.follows Departure.mixedOrders = true := by kernel_rfl
  have hM := bytes_makeASCIISet hv27 hi27 cutset w hcs hascii
  clear hascii
  have hemp : cutset.toList.isEmpty = false := by
    rw [Lib.toList_data]
    cases h : cutset.data.toList with
    | nil => have := Lib.size_eq cutset; rw [h, List.length_nil] at this; omega
    | cons _ _ => rfl
  have hn0 : ((n : Int) == 0) = false := beq_eq_false_iff_ne.2 (by omega)
  have hn1 : ((cutset.size : Int) == 1) = false := beq_eq_false_iff_ne.2 (by omega)
  have hsc : (storeCells ⟨w.heap.size + 1, 0, none⟩ (Lib.setCells cutset.data.toList).toList 0).run Tryd.prog ((w.alloc (.cells (Lib.setCells cutset.data.toList) 61)).alloc (.cells (Array.replicate 256 (.bool false)) 61)) = .ok () ((w.alloc (.cells (Lib.setCells cutset.data.toList) 61)).alloc (.cells (Lib.setCells cutset.data.toList) 61)) := by
    have := run_storeCells_new (P := Tryd.prog) (w.alloc (.cells (Lib.setCells cutset.data.toList) 61)) 61 (Array.replicate 256 (.bool false)) (Lib.setCells cutset.data.toList) (by rw [Lib.setCells_size]; exact hi27) (by rw [Lib.setCells_size, Array.size_replicate]) (Lib.setCells_one _)
    simpa using this
  have hsz := Lib.setCells_size cutset.data.toList
  have hcellAt : ∀ x : UInt8, ((w.alloc (.cells (Lib.setCells cutset.data.toList) 61)).alloc (.cells (Lib.setCells cutset.data.toList) 61)).cell? ⟨w.heap.size + 1, x.toNat, none⟩ = some (.bool (cutset.data.toList.contains x)) := fun x => by
    rw [World.cell?_alloc_at _ _ _ _ (by simp), Lib.setCells_at]
  have hB2 : Below w.heap.size w ((w.alloc (.cells (Lib.setCells cutset.data.toList) 61)).alloc (.cells (Lib.setCells cutset.data.toList) 61)) := ((Below.refl _ _).alloc (Nat.le_refl _) _).alloc (by simp) _
  have h1' := h1.below hB2
  clear h1 hB2
  have hT := bytes_trimRightASCII p n c bs (w.heap.size + 1) cutset.data.toList _ hb hnc (by omega) h1' hcellAt
  clear hcellAt h1'
  go_enter Tryd.func46, Tryd.ntmps46
  go_wp2_with (go_at_call 69; refine hM.mono ?_; rintro e w' ⟨rfl, hw⟩; rw [hw])
  -- (the whole set goes into a variable of the function's own: that one step by hand: the authors', Derived/Shelf/Strings/IndexAnyAll.lean)
  refine hT.mono ?_
  rintro e w' ⟨rfl, hw⟩
  rw [hw]
  clear hM hsc
  go_wp2
  go_ret
  exact ⟨rfl, rfl⟩
set_option maxHeartbeats 8000000 in
set_option maxRecDepth 1000000 in
theorem bytes_TrimLeft_set (hv27 : ∀ w, (zeroValue 61).run Tryd.prog w = .ok (.agg (Array.replicate 256 (.bool false))) w) (hi27 : (Tryd.prog.info? 61).map (·.size) = some 256) (p : Option Addr) (n c : Nat) (bs : List UInt8) (cutset : ByteArray) (w : World)
    (hb : bs.length = n) (hnc : n ≤ c) (hbig : c ≤ 9223372036854775807) (h1 : Lib.BytesAt w p n bs) (h2 : 2 ≤ cutset.size) (h0 : 0 < n) (hcs : cutset.size < 4294967281) (hascii : ∀ (j : Nat) b, cutset.data.toList[j]? = some b → b.toNat < 128) :
    Calls Tryd.prog 45 #[.slice p n c, .string cutset] w fun e w' => e = .returned (Lib.leftV p n c (n - (Lib.trimLeftS bs cutset.data.toList).length)) ∧ w' = ((w.alloc (.cells (Lib.setCells cutset.data.toList) 61)).alloc (.cells (Lib.setCells cutset.data.toList) 61)) := by
  have mixed : Tryd.prog.follows Departure.mixedOrders = true := by kernel_rfl
  have hM := bytes_makeASCIISet hv27 hi27 cutset w hcs hascii
  clear hascii
  have hemp : cutset.toList.isEmpty = false := by
    rw [Lib.toList_data]
    cases h : cutset.data.toList with
    | nil => have := Lib.size_eq cutset; rw [h, List.length_nil] at this; omega
    | cons _ _ => rfl
  have hn0 : ((n : Int) == 0) = false := beq_eq_false_iff_ne.2 (by omega)
  have hn1 : ((cutset.size : Int) == 1) = false := beq_eq_false_iff_ne.2 (by omega)
  have hsc : (storeCells ⟨w.heap.size + 1, 0, none⟩ (Lib.setCells cutset.data.toList).toList 0).run Tryd.prog ((w.alloc (.cells (Lib.setCells cutset.data.toList) 61)).alloc (.cells (Array.replicate 256 (.bool false)) 61)) = .ok () ((w.alloc (.cells (Lib.setCells cutset.data.toList) 61)).alloc (.cells (Lib.setCells cutset.data.toList) 61)) := by
    have := run_storeCells_new (P := Tryd.prog) (w.alloc (.cells (Lib.setCells cutset.data.toList) 61)) 61 (Array.replicate 256 (.bool false)) (Lib.setCells cutset.data.toList) (by rw [Lib.setCells_size]; exact hi27) (by rw [Lib.setCells_size, Array.size_replicate]) (Lib.setCells_one _)
    simpa using this
  have hsz := Lib.setCells_size cutset.data.toList
  have hcellAt : ∀ x : UInt8, ((w.alloc (.cells (Lib.setCells cutset.data.toList) 61)).alloc (.cells (Lib.setCells cutset.data.toList) 61)).cell? ⟨w.heap.size + 1, x.toNat, none⟩ = some (.bool (cutset.data.toList.contains x)) := fun x => by
    rw [World.cell?_alloc_at _ _ _ _ (by simp), Lib.setCells_at]
  have hB2 : Below w.heap.size w ((w.alloc (.cells (Lib.setCells cutset.data.toList) 61)).alloc (.cells (Lib.setCells cutset.data.toList) 61)) := ((Below.refl _ _).alloc (Nat.le_refl _) _).alloc (by simp) _
  have h1' := h1.below hB2
  clear h1 hB2
  have hT := bytes_trimLeftASCII p n c bs (w.heap.size + 1) cutset.data.toList _ hb hnc hbig h1' hcellAt
  clear hcellAt h1'
  generalize Lib.leftV p n c (n - (Lib.trimLeftS bs cutset.data.toList).length) = r at hT ⊢
  go_enter Tryd.func45, Tryd.ntmps45
  go_wp2_with (go_at_call 69; refine hM.mono ?_; rintro e w' ⟨rfl, hw⟩; rw [hw])
  -- (the whole set goes into a variable of the function's own: that one step by hand: the authors', Derived/Shelf/Strings/IndexAnyAll.lean)
  refine hT.mono ?_
  rintro e w' ⟨rfl, hw⟩
  rw [hw]
  clear hM hsc
  go_wp2
  go_ret
  exact ⟨rfl, rfl⟩
set_option maxHeartbeats 8000000 in
set_option maxRecDepth 1000000 in
theorem bytes_Trim_set (hv27 : ∀ w, (zeroValue 61).run Tryd.prog w = .ok (.agg (Array.replicate 256 (.bool false))) w) (hi27 : (Tryd.prog.info? 61).map (·.size) = some 256) (p : Option Addr) (n c : Nat) (bs : List UInt8) (cutset : ByteArray) (w : World)
    (hb : bs.length = n) (hnc : n ≤ c) (hbig : c ≤ 9223372036854775807) (h1 : Lib.BytesAt w p n bs) (h2 : 2 ≤ cutset.size) (h0 : 0 < n) (hcs : cutset.size < 4294967281) (hascii : ∀ (j : Nat) b, cutset.data.toList[j]? = some b → b.toNat < 128) :
    Calls Tryd.prog 47 #[.slice p n c, .string cutset] w fun e w' => e = .returned (Lib.leftV p (Lib.trimRightS bs cutset.data.toList).length c ((Lib.trimRightS bs cutset.data.toList).length - (Lib.trimS bs cutset.data.toList).length)) ∧ w' = ((w.alloc (.cells (Lib.setCells cutset.data.toList) 61)).alloc (.cells (Lib.setCells cutset.data.toList) 61)) := by
  have mixed : Tryd.prog.follows Departure.mixedOrders = true := by kernel_rfl
  have hM := bytes_makeASCIISet hv27 hi27 cutset w hcs hascii
  clear hascii
  have hemp : cutset.toList.isEmpty = false := by
    rw [Lib.toList_data]
    cases h : cutset.data.toList with
    | nil => have := Lib.size_eq cutset; rw [h, List.length_nil] at this; omega
    | cons _ _ => rfl
  have hn0 : ((n : Int) == 0) = false := beq_eq_false_iff_ne.2 (by omega)
  have hn1 : ((cutset.size : Int) == 1) = false := beq_eq_false_iff_ne.2 (by omega)
  have hsc : (storeCells ⟨w.heap.size + 1, 0, none⟩ (Lib.setCells cutset.data.toList).toList 0).run Tryd.prog ((w.alloc (.cells (Lib.setCells cutset.data.toList) 61)).alloc (.cells (Array.replicate 256 (.bool false)) 61)) = .ok () ((w.alloc (.cells (Lib.setCells cutset.data.toList) 61)).alloc (.cells (Lib.setCells cutset.data.toList) 61)) := by
    have := run_storeCells_new (P := Tryd.prog) (w.alloc (.cells (Lib.setCells cutset.data.toList) 61)) 61 (Array.replicate 256 (.bool false)) (Lib.setCells cutset.data.toList) (by rw [Lib.setCells_size]; exact hi27) (by rw [Lib.setCells_size, Array.size_replicate]) (Lib.setCells_one _)
    simpa using this
  have hsz := Lib.setCells_size cutset.data.toList
  have hcellAt : ∀ x : UInt8, ((w.alloc (.cells (Lib.setCells cutset.data.toList) 61)).alloc (.cells (Lib.setCells cutset.data.toList) 61)).cell? ⟨w.heap.size + 1, x.toNat, none⟩ = some (.bool (cutset.data.toList.contains x)) := fun x => by
    rw [World.cell?_alloc_at _ _ _ _ (by simp), Lib.setCells_at]
  have hB2 : Below w.heap.size w ((w.alloc (.cells (Lib.setCells cutset.data.toList) 61)).alloc (.cells (Lib.setCells cutset.data.toList) 61)) := ((Below.refl _ _).alloc (Nat.le_refl _) _).alloc (by simp) _
  have h1' := h1.below hB2
  clear h1 hB2
  have hkn : (Lib.trimRightS bs cutset.data.toList).length ≤ n := by rw [← hb]; exact Lib.trimRightS_len_le _ _
  have hTR := bytes_trimRightASCII p n c bs (w.heap.size + 1) cutset.data.toList _ hb hnc (by omega) h1' hcellAt
  have hTL := bytes_trimLeftASCII p (Lib.trimRightS bs cutset.data.toList).length c (bs.take (Lib.trimRightS bs cutset.data.toList).length) (w.heap.size + 1) cutset.data.toList _ (by simp; omega) (by omega) hbig (h1'.take hkn) hcellAt
  rw [← Lib.trimRightS_eq_take] at hTL
  change Calls Tryd.prog _ _ _ (fun e w' => e = .returned (Lib.leftV p (Lib.trimRightS bs cutset.data.toList).length c ((Lib.trimRightS bs cutset.data.toList).length - (Lib.trimS bs cutset.data.toList).length)) ∧ _) at hTL
  clear hcellAt h1'
  generalize Lib.leftV p (Lib.trimRightS bs cutset.data.toList).length c ((Lib.trimRightS bs cutset.data.toList).length - (Lib.trimS bs cutset.data.toList).length) = r at hTL ⊢
  generalize (Lib.trimRightS bs cutset.data.toList).length = k at hTR hTL hkn
  go_enter Tryd.func47, Tryd.ntmps47
  go_wp2_with (go_at_call 69; refine hM.mono ?_; rintro e w' ⟨rfl, hw⟩; rw [hw])
  -- (the whole set goes into a variable of the function's own: that one step by hand: the authors', Derived/Shelf/Strings/IndexAnyAll.lean)
  refine hTR.mono ?_
  rintro e w' ⟨rfl, hw⟩
  rw [hw]
  clear hM hsc
  go_wp2_with (first
    | (go_at_call 73; refine hTR.mono ?_; rintro e w' ⟨rfl, hw⟩; rw [hw])
    | (go_at_call 70; refine hTL.mono ?_; rintro e w' ⟨rfl, hw⟩; rw [hw]))
  go_ret
  exact ⟨rfl, rfl⟩
set_option maxHeartbeats 8000000 in
set_option maxRecDepth 1000000 in
theorem bytes_TrimRight_one (p : Option Addr) (n c : Nat) (bs : List UInt8) (cc : UInt8) (w : World)
    (hb : bs.length = n) (hnc : n ≤ c) (hbig : c ≤ 9223372036854775807) (h1 : Lib.BytesAt w p n bs) (h0 : 0 < n) (hc : cc.toNat < 128) :
    Calls Tryd.prog 46 #[.slice p n c, .string ⟨#[cc]⟩] w fun e w' => e = .returned (.slice p (Lib.trimRightS bs [cc]).length c) ∧ w' = w := by
  have mixed : Tryd.prog.follows Departure.mixedOrders = true := by kernel_rfl
  have hc' : ¬ (128 : Int) ≤ (cc.toNat : Int) := by omega
  have hn0 : ((n : Int) == 0) = false := beq_eq_false_iff_ne.2 (by omega)
  have hg0 : ((⟨#[cc]⟩ : ByteArray)[0]'Nat.zero_lt_one) = cc := rfl
  have hT := bytes_trimRightByte p n c bs cc w hb hnc (by omega) h1
  clear h1
  generalize (Lib.trimRightS bs [cc]).length = k at hT ⊢
  go_enter Tryd.func46, Tryd.ntmps46
  go_wp2_with (go_at_call 72; refine hT.mono ?_; rintro e w' ⟨rfl, rfl⟩)
  all_goals first | (go_ret; exact ⟨rfl, rfl⟩) | (exfalso; simp_all; done) | (exfalso; omega)
set_option maxHeartbeats 8000000 in
set_option maxRecDepth 1000000 in
theorem bytes_TrimLeft_one (p : Option Addr) (n c : Nat) (bs : List UInt8) (cc : UInt8) (w : World)
    (hb : bs.length = n) (hnc : n ≤ c) (hbig : c ≤ 9223372036854775807) (h1 : Lib.BytesAt w p n bs) (h0 : 0 < n) (hc : cc.toNat < 128) :
    Calls Tryd.prog 45 #[.slice p n c, .string ⟨#[cc]⟩] w fun e w' => e = .returned (Lib.leftV p n c (n - (Lib.trimLeftS bs [cc]).length)) ∧ w' = w := by
  have mixed : Tryd.prog.follows Departure.mixedOrders = true := by kernel_rfl
  have hc' : ¬ (128 : Int) ≤ (cc.toNat : Int) := by omega
  have hn0 : ((n : Int) == 0) = false := beq_eq_false_iff_ne.2 (by omega)
  have hg0 : ((⟨#[cc]⟩ : ByteArray)[0]'Nat.zero_lt_one) = cc := rfl
  have hT := bytes_trimLeftByte p n c bs cc w hb hnc hbig h1
  clear h1
  generalize Lib.leftV p n c (n - (Lib.trimLeftS bs [cc]).length) = r at hT ⊢
  go_enter Tryd.func45, Tryd.ntmps45
  go_wp2_with (go_at_call 68; refine hT.mono ?_; rintro e w' ⟨rfl, rfl⟩)
  all_goals first | (go_ret; exact ⟨rfl, rfl⟩) | (exfalso; simp_all; done) | (exfalso; omega)
set_option maxHeartbeats 8000000 in
set_option maxRecDepth 1000000 in
theorem bytes_Trim_one (p : Option Addr) (n c : Nat) (bs : List UInt8) (cc : UInt8) (w : World)
    (hb : bs.length = n) (hnc : n ≤ c) (hbig : c ≤ 9223372036854775807) (h1 : Lib.BytesAt w p n bs) (h0 : 0 < n) (hc : cc.toNat < 128) :
    Calls Tryd.prog 47 #[.slice p n c, .string ⟨#[cc]⟩] w fun e w' => e = .returned (Lib.leftV p (Lib.trimRightS bs [cc]).length c ((Lib.trimRightS bs [cc]).length - (Lib.trimS bs [cc]).length)) ∧ ∃ q, w' = w.drewN q := by
  have mixed : Tryd.prog.follows Departure.mixedOrders = true := by kernel_rfl
  have hc' : ¬ (128 : Int) ≤ (cc.toNat : Int) := by omega
  have hn0 : ((n : Int) == 0) = false := beq_eq_false_iff_ne.2 (by omega)
  have hg0 : ((⟨#[cc]⟩ : ByteArray)[0]'Nat.zero_lt_one) = cc := rfl
  have hkn : (Lib.trimRightS bs [cc]).length ≤ n := by rw [← hb]; exact Lib.trimRightS_len_le _ _
  have H1n : ∀ m, Lib.BytesAt (w.drewN m) p n bs := fun m => h1.below ⟨rfl, rfl, rfl, Nat.le_refl _, fun _ _ => rfl⟩
  have hTR := fun m => bytes_trimRightByte p n c bs cc (w.drewN m) hb hnc (by omega) (H1n m)
  have hTL := fun m => bytes_trimLeftByte p (Lib.trimRightS bs [cc]).length c (bs.take (Lib.trimRightS bs [cc]).length) cc (w.drewN m) (by simp; omega) (by omega) hbig ((H1n m).take hkn)
  rw [← Lib.trimRightS_eq_take] at hTL
  change ∀ m, Calls Tryd.prog _ _ _ (fun e w' => e = .returned (Lib.leftV p (Lib.trimRightS bs [cc]).length c ((Lib.trimRightS bs [cc]).length - (Lib.trimS bs [cc]).length)) ∧ _) at hTL
  clear h1 H1n
  generalize Lib.leftV p (Lib.trimRightS bs [cc]).length c ((Lib.trimRightS bs [cc]).length - (Lib.trimS bs [cc]).length) = r at hTL ⊢
  generalize (Lib.trimRightS bs [cc]).length = k at hTR hTL hkn
  go_enter Tryd.func47, Tryd.ntmps47
  go_wp2_with fail
  go_quiet_o (first
    | (go_at_call 72; refine Calls.quiet_of_same (hTR _))
    | (go_at_call 68; refine Calls.quiet_of_same (hTL _)))
  go_wp2
  go_ret
  exact ⟨rfl, nq, rfl⟩
set_option maxHeartbeats 8000000 in
set_option maxRecDepth 1000000 in
theorem bytes_TrimRight_empty (p : Option Addr) (n c : Nat) (cutset : ByteArray) (w : World) (h : n = 0 ∨ cutset.size = 0) :
    Calls Tryd.prog 46 #[.slice p n c, .string cutset] w fun e w' => e = .returned (.slice p n c) ∧ w' = w := by
  have mixed : Tryd.prog.follows Departure.mixedOrders = true := by kernel_rfl
  by_cases hn : n = 0
  · subst hn
    go_enter Tryd.func46, Tryd.ntmps46
    go_wp2
    all_goals first | (go_ret; exact ⟨rfl, rfl⟩) | (exfalso; simp_all; done)
  · have hc0 : cutset.size = 0 := h.resolve_left hn
    have he : cutset.toList.isEmpty = true := by
      rw [Lib.toList_data]
      cases h' : cutset.data.toList with
      | nil => rfl
      | cons _ _ => have := Lib.size_eq cutset; rw [h', List.length_cons] at this; omega
    have hn0 : ((n : Int) == 0) = false := beq_eq_false_iff_ne.2 (by omega)
    go_enter Tryd.func46, Tryd.ntmps46
    go_wp2
    all_goals first | (go_ret; exact ⟨rfl, rfl⟩) | (exfalso; simp_all; done)
set_option maxHeartbeats 8000000 in
set_option maxRecDepth 1000000 in
theorem bytes_TrimLeft_none (p : Option Addr) (c : Nat) (cutset : ByteArray) (w : World) :
    Calls Tryd.prog 45 #[.slice p 0 c, .string cutset] w fun e w' => e = .returned (.slice none 0 0) ∧ w' = w := by
  have mixed : Tryd.prog.follows Departure.mixedOrders = true := by kernel_rfl
  go_enter Tryd.func45, Tryd.ntmps45
  go_wp2
  all_goals first | (go_ret; exact ⟨rfl, rfl⟩) | (exfalso; simp_all; done)
set_option maxHeartbeats 8000000 in
set_option maxRecDepth 1000000 in
theorem bytes_TrimLeft_nocut (p : Option Addr) (n c : Nat) (cutset : ByteArray) (w : World) (h0 : 0 < n) (hc0 : cutset.size = 0) :
    Calls Tryd.prog 45 #[.slice p n c, .string cutset] w fun e w' => e = .returned (.slice p n c) ∧ w' = w := by
  have mixed : Tryd.prog.follows Departure.mixedOrders = true := by kernel_rfl
  have he : cutset.toList.isEmpty = true := by
    rw [Lib.toList_data]
    cases h' : cutset.data.toList with
    | nil => rfl
    | cons _ _ => have := Lib.size_eq cutset; rw [h', List.length_cons] at this; omega
  have hn0 : ((n : Int) == 0) = false := beq_eq_false_iff_ne.2 (by omega)
  go_enter Tryd.func45, Tryd.ntmps45
  go_wp2
  all_goals first | (go_ret; exact ⟨rfl, rfl⟩) | (exfalso; simp_all; done)
set_option maxHeartbeats 8000000 in
set_option maxRecDepth 1000000 in
theorem bytes_Trim_none (p : Option Addr) (c : Nat) (cutset : ByteArray) (w : World) :
    Calls Tryd.prog 47 #[.slice p 0 c, .string cutset] w fun e w' => e = .returned (.slice none 0 0) ∧ w' = w := by
  have mixed : Tryd.prog.follows Departure.mixedOrders = true := by kernel_rfl
  go_enter Tryd.func47, Tryd.ntmps47
  go_wp2
  all_goals first | (go_ret; exact ⟨rfl, rfl⟩) | (exfalso; simp_all; done)
set_option maxHeartbeats 8000000 in
set_option maxRecDepth 1000000 in
theorem bytes_Trim_nocut (p : Option Addr) (n c : Nat) (cutset : ByteArray) (w : World) (h0 : 0 < n) (hc0 : cutset.size = 0) :
    Calls Tryd.prog 47 #[.slice p n c, .string cutset] w fun e w' => e = .returned (.slice p n c) ∧ w' = w := by
  have mixed : Tryd.prog.follows Departure.mixedOrders = true := by kernel_rfl
  have he : cutset.toList.isEmpty = true := by
    rw [Lib.toList_data]
    cases h' : cutset.data.toList with
    | nil => rfl
    | cons _ _ => have := Lib.size_eq cutset; rw [h', List.length_cons] at this; omega
  have hn0 : ((n : Int) == 0) = false := beq_eq_false_iff_ne.2 (by omega)
  go_enter Tryd.func47, Tryd.ntmps47
  go_wp2
  all_goals first | (go_ret; exact ⟨rfl, rfl⟩) | (exfalso; simp_all; done)
set_option maxHeartbeats 8000000 in
set_option maxRecDepth 1000000 in
theorem bytes_TrimRight_ascii (hv27 : ∀ w, (zeroValue 61).run Tryd.prog w = .ok (.agg (Array.replicate 256 (.bool false))) w) (hi27 : (Tryd.prog.info? 61).map (·.size) = some 256) (p : Option Addr) (n c : Nat) (bs : List UInt8) (cutset : ByteArray) (w : World)
    (hb : bs.length = n) (hnc : n ≤ c) (hbig : c ≤ 9223372036854775807) (h1 : Lib.BytesAt w p n bs) (hcs : cutset.size < 4294967281) (hascii : ∀ (j : Nat) b, cutset.data.toList[j]? = some b → b.toNat < 128) :
    Calls Tryd.prog 46 #[.slice p n c, .string cutset] w fun e w' => e = .returned (.slice p (Lib.trimRightS bs cutset.data.toList).length c) ∧ Below w.heap.size w w' := by
  have mixed : Tryd.prog.follows Departure.mixedOrders = true := by kernel_rfl
  by_cases hn0 : n = 0
  · subst hn0
    obtain rfl : bs = [] := List.eq_nil_of_length_eq_zero hb
    exact (bytes_TrimRight_empty p 0 c cutset w (.inl rfl)).mono fun e w' ⟨h1, h2⟩ => ⟨h1, h2 ▸ Below.refl _ _⟩
  by_cases hc0 : cutset.size = 0
  · have hl : cutset.data.toList = [] := List.eq_nil_of_length_eq_zero (by rw [← Lib.size_eq]; exact hc0)
    refine (bytes_TrimRight_empty p n c cutset w (.inr hc0)).mono fun e w' ⟨h1, h2⟩ => ⟨?_, h2 ▸ Below.refl _ _⟩
    rw [h1, hl]
    rw [Lib.trimRightS_none, hb]
  by_cases hc1 : cutset.size = 1
  · obtain ⟨cc, hc⟩ : ∃ cc, cutset.data.toList = [cc] := by
      have hlen : cutset.data.toList.length = 1 := by rw [← Lib.size_eq]; exact hc1
      match hh : cutset.data.toList, hlen with
      | [cc], _ => exact ⟨cc, rfl⟩
    have hcut : cutset = ⟨#[cc]⟩ := by rw [← Lib.mk_data cutset, hc]
    have h128 : cc.toNat < 128 := hascii 0 cc (by rw [hc]; rfl)
    rw [hc, hcut]
    exact (bytes_TrimRight_one p n c bs cc w hb hnc hbig h1 (by omega) h128).mono fun e w' ⟨h1, h2⟩ => ⟨h1, h2 ▸ Below.refl _ _⟩
  · refine (bytes_TrimRight_set hv27 hi27 p n c bs cutset w hb hnc hbig h1 (by omega) (by omega) hcs hascii).mono fun e w' ⟨h1, h2⟩ => ⟨h1, ?_⟩
    rw [h2]
    exact ((Below.refl _ _).alloc (Nat.le_refl _) _).alloc (by simp) _
set_option maxHeartbeats 8000000 in
set_option maxRecDepth 1000000 in
theorem bytes_TrimLeft_ascii (hv27 : ∀ w, (zeroValue 61).run Tryd.prog w = .ok (.agg (Array.replicate 256 (.bool false))) w) (hi27 : (Tryd.prog.info? 61).map (·.size) = some 256) (p : Option Addr) (n c : Nat) (bs : List UInt8) (cutset : ByteArray) (w : World)
    (hb : bs.length = n) (hnc : n ≤ c) (hbig : c ≤ 9223372036854775807) (h1 : Lib.BytesAt w p n bs) (hcs : cutset.size < 4294967281) (hascii : ∀ (j : Nat) b, cutset.data.toList[j]? = some b → b.toNat < 128) :
    Calls Tryd.prog 45 #[.slice p n c, .string cutset] w fun e w' => e = .returned (Lib.leftV p n c (n - (Lib.trimLeftS bs cutset.data.toList).length)) ∧ Below w.heap.size w w' := by
  have mixed : Tryd.prog.follows Departure.mixedOrders = true := by kernel_rfl
  by_cases hn0 : n = 0
  · subst hn0
    obtain rfl : bs = [] := List.eq_nil_of_length_eq_zero hb
    refine (bytes_TrimLeft_none p c cutset w).mono fun e w' ⟨h1, h2⟩ => ⟨?_, h2 ▸ Below.refl _ _⟩
    rw [h1]; rfl
  by_cases hc0 : cutset.size = 0
  · have hl : cutset.data.toList = [] := List.eq_nil_of_length_eq_zero (by rw [← Lib.size_eq]; exact hc0)
    refine (bytes_TrimLeft_nocut p n c cutset w (by omega) hc0).mono fun e w' ⟨h1, h2⟩ => ⟨?_, h2 ▸ Below.refl _ _⟩
    rw [h1, hl]
    rw [Lib.trimLeftS_none, hb, Nat.sub_self]
    unfold Lib.leftV Lib.fromV
    rw [if_neg (by omega)]
    split <;> simp [map_add_zero]
  by_cases hc1 : cutset.size = 1
  · obtain ⟨cc, hc⟩ : ∃ cc, cutset.data.toList = [cc] := by
      have hlen : cutset.data.toList.length = 1 := by rw [← Lib.size_eq]; exact hc1
      match hh : cutset.data.toList, hlen with
      | [cc], _ => exact ⟨cc, rfl⟩
    have hcut : cutset = ⟨#[cc]⟩ := by rw [← Lib.mk_data cutset, hc]
    have h128 : cc.toNat < 128 := hascii 0 cc (by rw [hc]; rfl)
    rw [hc, hcut]
    exact (bytes_TrimLeft_one p n c bs cc w hb hnc hbig h1 (by omega) h128).mono fun e w' ⟨h1, h2⟩ => ⟨h1, h2 ▸ Below.refl _ _⟩
  · refine (bytes_TrimLeft_set hv27 hi27 p n c bs cutset w hb hnc hbig h1 (by omega) (by omega) hcs hascii).mono fun e w' ⟨h1, h2⟩ => ⟨h1, ?_⟩
    rw [h2]
    exact ((Below.refl _ _).alloc (Nat.le_refl _) _).alloc (by simp) _
set_option maxHeartbeats 8000000 in
set_option maxRecDepth 1000000 in
theorem bytes_Trim_ascii (hv27 : ∀ w, (zeroValue 61).run Tryd.prog w = .ok (.agg (Array.replicate 256 (.bool false))) w) (hi27 : (Tryd.prog.info? 61).map (·.size) = some 256) (p : Option Addr) (n c : Nat) (bs : List UInt8) (cutset : ByteArray) (w : World)
    (hb : bs.length = n) (hnc : n ≤ c) (hbig : c ≤ 9223372036854775807) (h1 : Lib.BytesAt w p n bs) (hcs : cutset.size < 4294967281) (hascii : ∀ (j : Nat) b, cutset.data.toList[j]? = some b → b.toNat < 128) :
    Calls Tryd.prog 47 #[.slice p n c, .string cutset] w fun e w' => e = .returned (Lib.leftV p (Lib.trimRightS bs cutset.data.toList).length c ((Lib.trimRightS bs cutset.data.toList).length - (Lib.trimS bs cutset.data.toList).length)) ∧ Below w.heap.size w w' := by
  have mixed : Tryd.prog.follows Departure.mixedOrders = true := by kernel_rfl
  by_cases hn0 : n = 0
  · subst hn0
    obtain rfl : bs = [] := List.eq_nil_of_length_eq_zero hb
    refine (bytes_Trim_none p c cutset w).mono fun e w' ⟨h1, h2⟩ => ⟨?_, h2 ▸ Below.refl _ _⟩
    rw [h1]; rfl
  by_cases hc0 : cutset.size = 0
  · have hl : cutset.data.toList = [] := List.eq_nil_of_length_eq_zero (by rw [← Lib.size_eq]; exact hc0)
    refine (bytes_Trim_nocut p n c cutset w (by omega) hc0).mono fun e w' ⟨h1, h2⟩ => ⟨?_, h2 ▸ Below.refl _ _⟩
    rw [h1, hl]
    rw [show Lib.trimS bs [] = bs from by unfold Lib.trimS; rw [Lib.trimRightS_none, Lib.trimLeftS_none], Lib.trimRightS_none, hb, Nat.sub_self]
    unfold Lib.leftV Lib.fromV
    rw [if_neg (by omega)]
    split <;> simp [map_add_zero]
  by_cases hc1 : cutset.size = 1
  · obtain ⟨cc, hc⟩ : ∃ cc, cutset.data.toList = [cc] := by
      have hlen : cutset.data.toList.length = 1 := by rw [← Lib.size_eq]; exact hc1
      match hh : cutset.data.toList, hlen with
      | [cc], _ => exact ⟨cc, rfl⟩
    have hcut : cutset = ⟨#[cc]⟩ := by rw [← Lib.mk_data cutset, hc]
    have h128 : cc.toNat < 128 := hascii 0 cc (by rw [hc]; rfl)
    rw [hc, hcut]
    exact (bytes_Trim_one p n c bs cc w hb hnc hbig h1 (by omega) h128).mono fun e w' ⟨h1, h2⟩ => ⟨h1, by obtain ⟨q, rfl⟩ := h2; exact ⟨rfl, rfl, rfl, Nat.le_refl _, fun _ _ => rfl⟩⟩
  · refine (bytes_Trim_set hv27 hi27 p n c bs cutset w hb hnc hbig h1 (by omega) (by omega) hcs hascii).mono fun e w' ⟨h1, h2⟩ => ⟨h1, ?_⟩
    rw [h2]
    exact ((Below.refl _ _).alloc (Nat.le_refl _) _).alloc (by simp) _
end Go.Proofs.YthnbifkcbeldmaaDoor
