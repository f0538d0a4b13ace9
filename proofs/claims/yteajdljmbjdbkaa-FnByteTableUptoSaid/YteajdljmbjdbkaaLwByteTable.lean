/- The law FnByteTable in its second form. -/
import Derived.Test.YteajdljmbjdbkaaPairs
import Derived.Deep.QuietTactic
import Derived.BigQuiet
import Derived.Test.YteajdljmbjdbkaaStepStr
namespace Go.Proofs.Yteajdljmbjdbkaa
open Go.RowKit Go.Lib
set_option linter.unusedVariables false

def btF (o n : ByteArray) (i : Nat) : ByteArray × ByteArray := (oneB (atB o i), oneB (atB n i))
/-- the byte that stands for a byte -/
def gB (o n : ByteArray) (c : UInt8) : UInt8 := match (List.range o.size).find? (fun i => atB o i == c) with | some i => atB n i | none => c
theorem gB_hit {o n : ByteArray} {c : UInt8} {k : Nat} (hk : k < o.size) (h : atB o k = c) (hno : ∀ j, j < k → atB o j ≠ c) : gB o n c = atB n k := by
  have : (List.range o.size).find? (fun i => atB o i == c) = some k := List.find?_range_eq_some.2 ⟨by rw [h]; exact beq_self_eq_true c, List.mem_range.2 hk, fun j hj => by
    rw [beq_eq_false_iff_ne.2 (hno j hj)]; rfl⟩
  rw [gB, this]
theorem gB_none {o n : ByteArray} {c : UInt8} (hno : ∀ j, j < o.size → atB o j ≠ c) : gB o n c = c := by
  have : (List.range o.size).find? (fun i => atB o i == c) = none := List.find?_range_eq_none.2 fun j hj => by
    rw [beq_eq_false_iff_ne.2 (hno j hj)]; rfl
  rw [gB, this]
theorem rep_bt (o n : ByteArray) (t : List UInt8) : rep (prs (pairsF (btF o n) o.size)) true t = t.map (gB o n) := by
  rw [pairsF_prs]
  have h1 : ∀ p ∈ (List.range o.size).map (fun i => ((btF o n i).1.data.toList, (btF o n i).2.data.toList)), p.1.length = 1 := fun p hp => by
    obtain ⟨i, _, rfl⟩ := List.mem_map.1 hp
    rfl
  rw [rep_bytes h1]
  induction t with
  | nil => rfl
  | cons c t ih =>
    rw [List.flatMap_cons, ih, List.map_cons]
    have : tab ((List.range o.size).map (fun i => ((btF o n i).1.data.toList, (btF o n i).2.data.toList))) c = [gB o n c] := by
      rw [tab, List.find?_map, gB]
      have e : ((fun p : List UInt8 × List UInt8 => p.1 == [c]) ∘ fun i => ((btF o n i).1.data.toList, (btF o n i).2.data.toList)) = fun i => atB o i == c := by
        funext i
        simp [btF, oneB]
      rw [e]
      cases (List.range o.size).find? (fun i => atB o i == c) <;> rfl
    rw [this]
    rfl
def BtRel (w : World) (o n : ByteArray) (v5 v19 : Value) (wr : World) : Prop := ∃ j : Nat, v19 = .int .i64 (j : Int) ∧ j ≤ o.size ∧ OwnS wr w.heap.size v5 (pairsF (btF o n) j) ∧ Below w.heap.size w wr
def BtRel2 (w : World) (s : ByteArray) (v : Value) (wr : World) : Prop := ∃ j : Nat, v = .int .i64 (j : Int) ∧ j ≤ s.size ∧ Below w.heap.size w wr
def BtRel3 (w : World) (o : ByteArray) (c : UInt8) (v11 v : Value) (wr : World) : Prop := ∃ j : Nat, v11 = .int .u8 (c.toNat : Int) ∧ v = .int .i64 (j : Int) ∧ j ≤ o.size ∧ (∀ i, i < j → atB o i ≠ c) ∧ Below w.heap.size w wr
set_option maxHeartbeats 3200000 in
set_option maxRecDepth 100000 in
theorem walk_FnByteTable (a0 : ByteArray) (a1 : ByteArray) (a2 : ByteArray) (w : World) (w0 : a0.size ≤ maxLen) (b0 : a0.size ≤ 1048576) (w1 : a1.size ≤ maxLen) (b1 : a1.size ≤ 1048576) (w2 : a2.size ≤ maxLen) (b2 : a2.size ≤ 1048576) :
    Calls Try.prog 10 #[.string a0, .string a1, .string a2] w fun e w' => e = .returned (.bool true) ∧ Below w.heap.size w w' := by
  have hnot : ∀ (x : Bool) (w : World), (Op.unary .not (.bool x)).run Try.prog w = .ok (.bool (!x)) w := fun _ _ => rfl
  clear w0 w1 w2
  by_cases hshort : a1.size < a0.size
  · go_enter Try.func10, Try.ntmps10
    go_wp2_with fail
    go_ret
    exact ⟨rfl, Below.refl _ _⟩
  go_enter Try.func10, Try.ntmps10
  go_wp2_with fail
  go_loopw [7, 33] (BtRel w a0 a1) (fun _ i _ => a0.size - (RowKit.intOf i).toNat)
  case atStart => exact ⟨0, rfl, Nat.zero_le _, OwnS.nil _ _, Below.refl _ _⟩
  case round =>
    obtain ⟨j, rfl, hj, hown, B⟩ := hrel
    have hol := pairsF_length (btF a0 a1) j
    have HOWN := Lib.hid hown
    have hBs := B.size
    by_cases hlt : j < a0.size
    · have e1 : (j : Int) < (a0.size : Int) := by omega
      have e2 : (j : Int) + 1 ≤ (a0.size : Int) := by omega
      have e3 : (j : Int) + 1 ≤ (a1.size : Int) := by omega
      have e4 : (0 : Int) ≤ (j : Int) := by omega
      have e5 : IntKind.i64.wrap ((j : Int) + 1) = (j : Int) + 1 := by rw [IntKind.wrap_i64]; omega
      have e6 : (j : Int) ≤ (j : Int) + 1 := by omega
      have e7 : (0 : Int) ≤ (j : Int) + 1 := by omega
      have e8 : (j : Int) ≤ (a0.size : Int) := by omega
      have e9 : (j : Int) ≤ (a1.size : Int) := by omega
      have HX := Lib.hid (cut_one a0 j hlt)
      have HY := Lib.hid (cut_one a1 j (by omega))
      have hol2 : (pairsF (btF a0 a1) j).length ≤ 1099511627776 := by omega
      clear hown hol
      go_wp2_with fail
      go_region_law (
        refine step_str2 rfl (.tmp 36) (.tmp 47) rfl wr.heap.size w.heap.size (pairsF (btF a0 a1) j).length ?v1 ((pairsF (btF a0 a1) j).map Value.string) (a0.extract j (j + 1)) (a1.extract j (j + 1)) ?t1 ?t2 ?qs ?qx ?qb ?qo hol2 ?qh ?qk
        case qs => rfl
        case qx => rfl
        case qb => exact Array.getElem?_push_size
        case qo => exact World.ownsRow.alloc HOWN.out _
        case qh => exact Nat.le_trans hBs (by simp)
        intro g2 c2 w2 hown2 hgr
        have HB2 : Hid (Below w.heap.size w w2) := Lib.hid ((Below.drew (B.alloc hBs (.cells #[.string (a0.extract j (j + 1)), .string (a1.extract j (j + 1))] 9))).grown hgr (Nat.le_trans hBs (by simp)) (fun k hk => (World.ownsRow.lt HOWN.out k hk).1))
        have HO2 := Lib.hid (OwnS.two (w2 := w2) hown2)
        clear hown2 hgr)
      go_wp2_with fail
      go_roundw
      case rel => exact ⟨j + 1, by go_num, by omega, by have := HO2.out; rw [HX.out, HY.out] at this; exact this, HB2.out⟩
      case measure => simp [RowKit.intOf]; omega
    · obtain rfl : j = a0.size := by omega
      obtain ⟨ao, c1, rfl, hcap, hst⟩ := hown.form
      rw [hol]
      obtain ⟨w1, hw1⟩ : ∃ w1, w1 = wr := ⟨_, rfl⟩
      subst hw1
      have e1 : ¬ ((a0.size : Int) < (a0.size : Int)) := by omega
      have hrep := rep_bt a0 a1 a2.data.toList
      have hkk : ∀ x ∈ pairsF (btF a0 a1) a0.size, x.size ≤ 2147483647 := fun x hx => by
        obtain ⟨i, _, rfl | rfl⟩ := pairsF_mem hx
        · exact (by decide : 1 ≤ 2147483647)
        · exact (by decide : 1 ≤ 2147483647)
      obtain ⟨got, hgot⟩ : ∃ g : ByteArray, g = ⟨(a2.data.toList.map (gB a0 a1)).toArray⟩ := ⟨_, rfl⟩
      have hgs : got.size = a2.size := by rw [hgot, baz, List.length_map]; simp
      have HGT : Hid (∀ i (h : i < got.size) (h2 : i < a2.size), got[i] = gB a0 a1 a2[i]) := Lib.hid (fun i h h2 => by
        have h3 : i < a2.data.toList.length := by simp; exact h2
        have e : got.data.toList = a2.data.toList.map (gB a0 a1) := by rw [hgot]
        have h4 : i < got.data.toList.length := by rw [e, List.length_map]; exact h3
        show got.data.toList[i]'h4 = _
        simp only [e, List.getElem_map]
        rfl)
      have HRT : Hid (Calls Try.prog 26 #[.slice ao (2 * a0.size) c1, .string a2] w1 fun e w' => e = .returned (.string got) ∧ Below w1.heap.size w1 w') := Lib.hid (by
        rw [hgot, ← hrep]
        exact rpText_even a0.size c1 ao (pairsF (btF a0 a1) a0.size) a2 w1 hol hst (by omega) hkk hcap (by omega) (by rw [hrep, List.length_map]; simp; omega))
      have hgs2 : ((got.size : Int) == (a2.size : Int)) = true := by rw [hgs]; exact beq_self_eq_true _
      clear hown hst hcap hlt hol HOWN hkk hrep hgot
      go_wp2_with (go_at_call 26; refine HRT.out.mono ?_; rintro e w2 ⟨rfl, hB2⟩; have B2 := Lib.hid (B.trans (hB2.mono hBs)); clear hB2)
      go_loopw [60] (BtRel2 w a2) (fun i _ => a2.size - (RowKit.intOf i).toNat)
      case atStart => exact ⟨0, rfl, Nat.zero_le _, B2.out⟩
      case round =>
        obtain ⟨i, rfl, hi, B3⟩ := hrel
        by_cases hlt : i < a2.size
        · have f1 : (i : Int) < (a2.size : Int) := by omega
          have f2 : (i : Int) < (got.size : Int) := by omega
          obtain ⟨d, hgd⟩ : ∃ d, a2[i] = d := ⟨_, rfl⟩
          have hgg := HGT.out i (by omega) hlt
          rw [hgd] at hgg
          have HGG := Lib.hid hgg
          clear hgg
          go_wp2_with fail
          go_loopw [11, 68] (BtRel3 w a0 d) (fun _ k _ => a0.size - (RowKit.intOf k).toNat)
          case atStart => exact ⟨0, rfl, rfl, Nat.zero_le _, fun i h => absurd h (Nat.not_lt_zero _), B3⟩
          case round =>
            obtain ⟨k, rfl, rfl, hk, hno, B4⟩ := hrel
            have HNO := Lib.hid hno
            clear hno
            by_cases hlt2 : k < a0.size
            · have g1 : (k : Int) < (a0.size : Int) := by omega
              have g2 : (k : Int) < (a1.size : Int) := by omega
              have g3 : (0 : Int) ≤ (k : Int) := by omega
              have g4 : (0 : Int) ≤ (i : Int) := by omega
              have HA0 := Lib.hid (atB_get a0 k hlt2)
              have HA1 := Lib.hid (atB_get a1 k (by omega))
              obtain ⟨x, hx⟩ : ∃ x, a0[k] = x := ⟨_, rfl⟩
              by_cases h0 : x = d
              · subst h0
                obtain ⟨y, hy⟩ : ∃ y, a1[k]'(by omega) = y := ⟨_, rfl⟩
                have hz : got[i]'(by omega) = y := by
                  rw [HGG.out, gB_hit hlt2 (HA0.out.symm.trans hx) HNO.out, ← HA1.out]
                  exact hy
                have e2 : ((x.toNat : Int) == (x.toNat : Int)) = true := beq_self_eq_true _
                have e3 : ((y.toNat : Int) == (y.toNat : Int)) = true := beq_self_eq_true _
                go_wp2_with fail
                go_quiet (fail)
                go_wp2_with fail
                go_roundw
                case rel => exact ⟨i + 1, by go_num, by omega, below_drewN B4 _⟩
                case measure => simp [RowKit.intOf]; omega
              · have e2 : ((x.toNat : Int) == (d.toNat : Int)) = false := beq_eq_false_iff_ne.2 (fun e => h0 (i8_inj e))
                have H0 := Lib.hid h0
                clear h0
                go_wp2_with fail
                go_quiet (fail)
                go_wp2_with fail
                go_roundw
                case rel => exact ⟨k + 1, rfl, by go_num, by omega, fun j hj => by
                  by_cases e : j = k
                  · subst e; rw [← HA0.out, hx]; exact H0.out
                  · exact HNO.out j (by omega), below_drewN B4 _⟩
                case measure => simp [RowKit.intOf]; omega
            · obtain rfl : k = a0.size := by omega
              have g1 : ¬ ((a0.size : Int) < (a0.size : Int)) := by omega
              have hz : got[i]'(by omega) = d := by rw [HGG.out, gB_none HNO.out]
              have e3 : ((d.toNat : Int) == (d.toNat : Int)) = true := beq_self_eq_true _
              clear hlt2
              go_wp2_with fail
              go_roundw
              case rel => exact ⟨i + 1, by go_num, by omega, B4⟩
              case measure => simp [RowKit.intOf]; omega
        · obtain rfl : i = a2.size := by omega
          have f1 : ¬ ((a2.size : Int) < (a2.size : Int)) := by omega
          clear hlt
          go_wp2_with fail
          go_ret
          exact ⟨rfl, B3⟩
end Go.Proofs.Yteajdljmbjdbkaa
