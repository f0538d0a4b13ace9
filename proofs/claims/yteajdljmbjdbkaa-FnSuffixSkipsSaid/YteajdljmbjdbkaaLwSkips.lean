/- The law FnSuffixSkips. -/
import Derived.Test.YteajdljmbjdbkaaSkips
import Derived.Test.YteajdljmbjdbkaaBld
namespace Go.Proofs.Yteajdljmbjdbkaa
open Go.RowKit Go.Lib
set_option linter.unusedVariables false
theorem empty_bytes {s : ByteArray} (h : s.size = 0) : s = ⟨#[]⟩ := by
  have h2 : s.data.toList = [] := List.eq_nil_of_length_eq_zero (by rw [← Lib.size_eq]; exact h)
  rw [← Lib.mk_data s, h2]
def Tells (b : Bool) (q : Prop) : Prop := b = true ↔ q
/-- the first test of the law, and its inner loop up to k -/
def cp (f : Nat → UInt8) (j d n : Nat) : Prop := (j < d ∨ f (j - d) ≠ f j) ∧ ∀ k, j < k → k < n → (k < d ∨ f (k - d) = f k)
theorem cp_zero {f : Nat → UInt8} {j d : Nat} {b : Bool} (h : b = true ↔ (j < d ∨ f (j - d) ≠ f j)) : b = true ↔ cp f j d (j + 1) :=
  h.trans ⟨fun h => ⟨h, fun k h1 h2 => by omega⟩, fun h => h.1⟩
theorem cp_no {f : Nat → UInt8} {j d k : Nat} {b : Bool} (h : b = true ↔ cp f j d k) (hb : b = false) : false = true ↔ cp f j d (k + 1) := by
  subst hb
  exact ⟨fun h => (by cases h), fun h2 => (h.2 ⟨h2.1, fun x h3 h4 => h2.2 x h3 (by omega)⟩)⟩
theorem cp_step {f : Nat → UInt8} {j d k : Nat} {b c : Bool} (h : b = true ↔ cp f j d k) (hb : b = true) (hj : j < k) (hc : c = true ↔ (k < d ∨ f (k - d) = f k)) : c = true ↔ cp f j d (k + 1) := by
  have h1 := h.1 hb
  refine hc.trans ⟨fun h2 => ⟨h1.1, fun x h3 h4 => ?_⟩, fun h2 => h2.2 k hj (by omega)⟩
  rcases Nat.lt_or_ge x k with h5 | h5
  · exact h1.2 x h3 h5
  · obtain rfl : x = k := by omega
    exact h2
theorem byte_iff {p : ByteArray} {k d : Nat} (h1 : k < p.size) (h2 : k - d < p.size) (h3 : ¬ k < d) : ((p[k - d].toNat : Int) == (p[k].toNat : Int)) = true ↔ (k < d ∨ gb p (k - d) = gb p k) := by
  rw [gb_eq p _ h1, gb_eq p _ h2, beq_iff_eq]
  constructor
  · intro h
    exact .inr (UInt8.toNat_inj.1 (by omega))
  · rintro (h | h)
    · exact absurd h h3
    · rw [h]
theorem byte_niff {p : ByteArray} {k d : Nat} (h1 : k < p.size) (h2 : k - d < p.size) (h3 : ¬ k < d) : ((p[k - d].toNat : Int) != (p[k].toNat : Int)) = true ↔ (k < d ∨ gb p (k - d) ≠ gb p k) := by
  rw [gb_eq p _ h1, gb_eq p _ h2, bne_iff_ne]
  constructor
  · intro h
    exact .inr (fun e => h (by rw [e]))
  · rintro (h | h)
    · exact absurd h h3
    · intro e
      exact h (UInt8.toNat_inj.1 (by omega))
/-- the loops' relations -/
def S1 (p : ByteArray) (w w1 : World) (v : Value) (wr : World) : Prop := ∃ i : Nat, v = .int .i64 (i : Int) ∧ i ≤ p.size ∧ Below w1.heap.size w1 wr
def S2 (p : ByteArray) (w1 : World) (far : Nat) (v : Value) (wr : World) : Prop := ∃ d : Nat, v = .int .i64 (d : Int) ∧ 1 ≤ d ∧ d ≤ far ∧ Below w1.heap.size w1 wr
def S3 (p : ByteArray) (w1 : World) (i d : Nat) (v8 v9 : Value) (wr : World) : Prop := ∃ (k : Nat) (b : Bool), v8 = .bool b ∧ v9 = .int .i64 (k : Int) ∧ i < k ∧ k ≤ p.size ∧ (b = true ↔ cp (gb p) i d k) ∧ Below w1.heap.size w1 wr
set_option maxHeartbeats 3200000 in
set_option maxRecDepth 100000 in
theorem walk_FnSuffixSkips (a0 : ByteArray) (w : World) (w0 : a0.size ≤ maxLen) :
    Calls Try.prog 4 #[.string a0] w fun e w' => e = .returned (.bool true) ∧ Below w.heap.size w w' := by
  unfold maxLen at w0
  by_cases h0 : 2147483647 < a0.size
  · go_enter Try.func4, Try.ntmps4
    go_wp2
    go_ret
    exact ⟨rfl, Below.refl _ _⟩
  by_cases h1 : a0.size = 0
  · obtain rfl := empty_bytes h1
    go_enter Try.func4, Try.ntmps4
    go_wp2
    go_ret
    exact ⟨rfl, Below.refl _ _⟩
  have hemp : a0.toList.isEmpty = false := by
    rw [Lib.toList_data]
    cases h : a0.data.toList with
    | nil => have := Lib.size_eq a0; rw [h, List.length_nil] at this; omega
    | cons _ _ => rfl
  have HK := Lib.hid (implSkips a0 (by omega) (by omega) w)
  go_enter Try.func4, Try.ntmps4
  go_wp2_with (go_at_call 23; refine HK.out.mono ?_; rintro e w1 ⟨v1, far, tb, cap, rfl, hk⟩; have HP := Lib.hid hk; clear hk)
  clear HK
  go_loopw [27] (S1 a0 w w1) (fun v _ => a0.size - (RowKit.intOf v).toNat)
  case atStart => exact ⟨0, rfl, Nat.zero_le _, Below.refl _ _⟩
  case round =>
    obtain ⟨i, rfl, hi, B⟩ := hrel
    by_cases hlt : i < a0.size
    · have hc := (B.cell (p := ⟨tb, i, none⟩) HP.out.2.2.2.1).trans (HP.out.1 i hlt)
      have hg := HP.out.2.1 i hlt
      have hf := HP.out.2.2.1 i hlt
      generalize far i = F at hc hg hf
      have HG := Lib.hid hg
      have hF1 : 1 ≤ F := hg.1
      have ei : ((a0.size - 1 - i : Nat) : Int) = (a0.size : Int) - 1 - (i : Int) := by omega
      rw [ei] at hc
      have e1 : (i : Int) < (a0.size : Int) := by omega
      have x1 : IntKind.i64.wrap ((a0.size : Int) - 1) = (a0.size : Int) - 1 := IntWalk.i64_in _ (by omega)
      have x2 : IntKind.i64.wrap ((a0.size : Int) - 1 - i) = (a0.size : Int) - 1 - i := IntWalk.i64_in _ (by omega)
      have x3 : IntKind.i64.wrap ((F : Int) + ((a0.size : Int) - 1 - i) - ((a0.size : Int) - 1 - i)) = (F : Int) := by rw [IntWalk.i64_in _ (by omega)]; omega
      have x4 : ¬ ((F : Int) < 1) := by omega
      clear hg
      go_wp2_with fail
      obtain ⟨wo, rfl⟩ : ∃ wo : World, wo = wr := ⟨_, rfl⟩
      go_loopw [7] (S2 a0 w1 F) (fun v _ => F - (RowKit.intOf v).toNat)
      case atStart => exact ⟨1, rfl, Nat.le_refl _, hF1, B⟩
      case round =>
        clear B hc
        obtain ⟨d, rfl, hd1, hdF, B⟩ := hrel
        by_cases hdl : d < F
        · have e2 : (d : Int) < (F : Int) := by omega
          have HN := Lib.hid (HG.out.2 d hd1 hdl)
          have x6 : IntKind.i64.wrap ((i : Int) - d) = (i : Int) - d := IntWalk.i64_in _ (by omega)
          have x7 : IntKind.i64.wrap ((i : Int) + 1) = (i : Int) + 1 := IntWalk.i64_in _ (by omega)
          by_cases hid : i < d
          · have g0 : (i : Int) - (d : Int) < 0 := by omega
            have HB : Hid (Tells true (i < d ∨ gb a0 (i - d) ≠ gb a0 i)) := Lib.hid ⟨fun _ => .inl hid, fun _ => rfl⟩
            go_wp2_with fail
            go_quiet (fail)
            generalize hq : wr.drewN _ = wq
            have B2 : Below w1.heap.size w1 wq := hq ▸ below_drewN B _
            clear hq
            go_wp2_with fail
            go_loopw [8, 9] (S3 a0 w1 i d) (fun _ v _ => a0.size - (RowKit.intOf v).toNat)
            case atStart => exact ⟨i + 1, _, rfl, by go_num, by omega, by omega, cp_zero (HB.out), B2⟩
            case round =>
              clear B2 B
              obtain ⟨k, b, rfl, rfl, hik, hk, hb, B⟩ := hrel
              have HBB : Hid (Tells b (cp (gb a0) i d k)) := Lib.hid hb
              by_cases hkl : k < a0.size
              · have e3 : (k : Int) < (a0.size : Int) := by omega
                have y1 : IntKind.i64.wrap ((k : Int) + 1) = (k : Int) + 1 := IntWalk.i64_in _ (by omega)
                have y3 : IntKind.i64.wrap ((k : Int) - d) = (k : Int) - d := IntWalk.i64_in _ (by omega)
                rcases Bool.eq_false_or_eq_true b with rfl | rfl
                · by_cases hkd : k < d
                  · have g1 : (k : Int) - (d : Int) < 0 := by omega
                    clear hb
                    go_wp2_with fail
                    go_quiet (fail)
                    go_wp2_with fail
                    go_roundw
                    case rel => exact ⟨k + 1, _, rfl, by go_num, by omega, by omega, cp_step HBB.out rfl hik ⟨fun _ => .inl hkd, fun _ => rfl⟩, below_drewN B _⟩
                    case measure => simp [RowKit.intOf]; omega
                  · have g1 : decide ((k : Int) - (d : Int) < 0) = false := decide_eq_false (by omega)
                    have q3 := idx a0 ((k : Int) - d) (k - d) (by omega) (by omega)
                    have q4 := idx a0 (k : Int) k hkl rfl
                    clear hb
                    go_wp2_with fail
                    go_quiet (fail)
                    go_wp2_with fail
                    go_roundw
                    case rel => exact ⟨k + 1, _, rfl, by go_num, by omega, by omega, cp_step HBB.out rfl hik (byte_iff hkl (by omega) hkd), below_drewN B _⟩
                    case measure => simp [RowKit.intOf]; omega
                · clear hb
                  go_wp2_with fail
                  go_quiet (fail)
                  go_wp2_with fail
                  go_roundw
                  case rel => exact ⟨k + 1, _, rfl, by go_num, by omega, by omega, cp_no HBB.out rfl, below_drewN B _⟩
                  case measure => simp [RowKit.intOf]; omega
              · obtain rfl : k = a0.size := by omega
                have e3 : ¬ ((a0.size : Int) < (a0.size : Int)) := by omega
                rcases Bool.eq_false_or_eq_true b with rfl | rfl
                · exact absurd (hb.1 rfl) (HN.out)
                · clear hb
                  have y1 : IntKind.i64.wrap ((d : Int) + 1) = (d : Int) + 1 := IntWalk.i64_in _ (by omega)
                  go_wp2_with fail
                  go_roundw
                  case rel => exact ⟨d + 1, by go_num, by omega, by omega, B⟩
                  case measure => simp [RowKit.intOf]; omega
          · have g0 : decide ((i : Int) - (d : Int) < 0) = false := decide_eq_false (by omega)
            have q1 := idx a0 ((i : Int) - d) (i - d) (by omega) (by omega)
            have q2 := idx a0 (i : Int) i hlt rfl
            have HB : Hid (Tells ((a0[i - d].toNat : Int) != (a0[i].toNat : Int)) (i < d ∨ gb a0 (i - d) ≠ gb a0 i)) := Lib.hid (byte_niff hlt (by omega) hid)
            go_wp2_with fail
            go_quiet (fail)
            generalize hq : wr.drewN _ = wq
            have B2 : Below w1.heap.size w1 wq := hq ▸ below_drewN B _
            clear hq q1 q2
            go_wp2_with fail
            go_loopw [8, 9] (S3 a0 w1 i d) (fun _ v _ => a0.size - (RowKit.intOf v).toNat)
            case atStart => exact ⟨i + 1, _, rfl, by go_num, by omega, by omega, cp_zero (HB.out), B2⟩
            case round =>
              clear B2 B
              obtain ⟨k, b, rfl, rfl, hik, hk, hb, B⟩ := hrel
              have HBB : Hid (Tells b (cp (gb a0) i d k)) := Lib.hid hb
              by_cases hkl : k < a0.size
              · have e3 : (k : Int) < (a0.size : Int) := by omega
                have y1 : IntKind.i64.wrap ((k : Int) + 1) = (k : Int) + 1 := IntWalk.i64_in _ (by omega)
                have y3 : IntKind.i64.wrap ((k : Int) - d) = (k : Int) - d := IntWalk.i64_in _ (by omega)
                rcases Bool.eq_false_or_eq_true b with rfl | rfl
                · by_cases hkd : k < d
                  · have g1 : (k : Int) - (d : Int) < 0 := by omega
                    clear hb
                    go_wp2_with fail
                    go_quiet (fail)
                    go_wp2_with fail
                    go_roundw
                    case rel => exact ⟨k + 1, _, rfl, by go_num, by omega, by omega, cp_step HBB.out rfl hik ⟨fun _ => .inl hkd, fun _ => rfl⟩, below_drewN B _⟩
                    case measure => simp [RowKit.intOf]; omega
                  · have g1 : decide ((k : Int) - (d : Int) < 0) = false := decide_eq_false (by omega)
                    have q3 := idx a0 ((k : Int) - d) (k - d) (by omega) (by omega)
                    have q4 := idx a0 (k : Int) k hkl rfl
                    clear hb
                    go_wp2_with fail
                    go_quiet (fail)
                    go_wp2_with fail
                    go_roundw
                    case rel => exact ⟨k + 1, _, rfl, by go_num, by omega, by omega, cp_step HBB.out rfl hik (byte_iff hkl (by omega) hkd), below_drewN B _⟩
                    case measure => simp [RowKit.intOf]; omega
                · clear hb
                  go_wp2_with fail
                  go_quiet (fail)
                  go_wp2_with fail
                  go_roundw
                  case rel => exact ⟨k + 1, _, rfl, by go_num, by omega, by omega, cp_no HBB.out rfl, below_drewN B _⟩
                  case measure => simp [RowKit.intOf]; omega
              · obtain rfl : k = a0.size := by omega
                have e3 : ¬ ((a0.size : Int) < (a0.size : Int)) := by omega
                rcases Bool.eq_false_or_eq_true b with rfl | rfl
                · exact absurd (hb.1 rfl) (HN.out)
                · clear hb
                  have y1 : IntKind.i64.wrap ((d : Int) + 1) = (d : Int) + 1 := IntWalk.i64_in _ (by omega)
                  go_wp2_with fail
                  go_roundw
                  case rel => exact ⟨d + 1, by go_num, by omega, by omega, B⟩
                  case measure => simp [RowKit.intOf]; omega
        · obtain rfl : d = F := by omega
          have e2 : ¬ ((d : Int) < (d : Int)) := by omega
          go_wp2_with fail
          go_roundw
          case rel => exact ⟨i + 1, by go_num, by omega, B⟩
          case measure => simp [RowKit.intOf]; omega
    · obtain rfl : i = a0.size := by omega
      have B2 := Lib.hid (HP.out.2.2.2.2.trans (B.mono HP.out.2.2.2.2.size))
      clear B
      go_wp2_with fail
      go_ret
      exact ⟨rfl, B2.out⟩
end Go.Proofs.Yteajdljmbjdbkaa
