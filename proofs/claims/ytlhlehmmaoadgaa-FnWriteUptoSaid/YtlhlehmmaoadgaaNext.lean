/- (*stringFinder).next finds the first place of its pattern: over a finder whose tables are as the plain part says. -/
import Derived.Test.YtlhlehmmaoadgaaFinder
namespace Go.Proofs.Ytlhlehmmaoadgaa
open Go.RowKit Go.Lib
set_option linter.unusedVariables false

theorem occ_iff (t p : ByteArray) (q : Nat) (hq : q + p.size ≤ t.size) : occAt t.data.toList p.data.toList q = true ↔ ∀ k, k < p.size → gb t (q + k) = gb p k := by
  have hl : p.data.toList.length = p.size := by simp
  have hlt : t.data.toList.length = t.size := by simp
  rw [occAt_iff_take _ _ _ (by simpa using hq), beq_iff_eq]
  constructor
  · intro h k hk
    have e := congrArg (fun l => l[k]?) h
    simp only [List.getElem?_take, List.getElem?_drop, hl, hk, if_true] at e
    rw [data_getElem? t (q + k) (by omega), data_getElem? p k hk] at e
    rw [gb_eq t _ (by omega), gb_eq p k hk]
    exact Option.some.inj e
  · intro h
    apply List.ext_getElem?
    intro k
    by_cases hk : k < p.size
    · simp only [List.getElem?_take, List.getElem?_drop, hl, hk, if_true]
      rw [data_getElem? t (q + k) (by omega), data_getElem? p k hk]
      have := h k hk
      rw [gb_eq t _ (by omega), gb_eq p k hk] at this
      rw [this]
    · rw [List.getElem?_eq_none (by rw [List.length_take, List.length_drop, hl]; omega), List.getElem?_eq_none (by rw [hl]; omega)]

theorem occ_at (t p : ByteArray) (hp : 1 ≤ p.size) (q : Nat) (h : occAt t.data.toList p.data.toList q = true) : BM.At (gb p) p.size (gb t) t.size q := by
  have hr : q + p.size ≤ t.size := by
    rcases occAt_room h with h' | h'
    · simpa using h'
    · have : p.size = 0 := by simpa using congrArg List.length h'
      omega
  exact ⟨hr, (occ_iff t p q hr).1 h⟩

/-- no place from p0 + 1 on is left out by a skip -/
theorem noOcc_skip2 (t p : ByteArray) (hp : 1 ≤ p.size) (p0 j : Nat) (far : Nat) (bad : UInt8 → Nat) (hj : j < p.size) (hn : NoOcc t.data.toList p.data.toList p0) (hg : BM.Good (gb p) p.size j far) (hb : BM.Bad (gb p) p.size bad)
    (hne : gb t (p0 + j) ≠ gb p j) (hs : ∀ k, j < k → k < p.size → gb t (p0 + k) = gb p k) (sk : Nat) (hsk : sk = max (bad (gb t (p0 + j))) (far + (p.size - 1 - j))) :
    NoOcc t.data.toList p.data.toList (p0 + j + sk + 1 - p.size) := by
  intro q hq
  cases ho : occAt t.data.toList p.data.toList q with
  | false => rfl
  | true =>
    exfalso
    have ha := occ_at t p hp q ho
    by_cases h1 : q < p0
    · have := hn q h1; rw [this] at ho; cases ho
    · by_cases h2 : q = p0
      · subst h2; exact hne (ha.2 j hj)
      · obtain ⟨d, rfl⟩ : ∃ d, q = p0 + d := ⟨q - p0, by omega⟩
        by_cases h3 : d < far
        · exact BM.skip_good hg hj hne hs d (by omega) h3 ha
        · refine BM.skip_bad hb hj d (by omega) ?_ ha
          rcases Nat.le_total (bad (gb t (p0 + j))) (far + (p.size - 1 - j)) with h | h
          · rw [Nat.max_eq_right h] at hsk; omega
          · rw [Nat.max_eq_left h] at hsk; omega

theorem nonempty (p : ByteArray) (hp : 1 ≤ p.size) (e : p.data.toList = []) : False := by
  have hh : p.data.toList.length = p.size := by simp
  rw [e] at hh
  simp at hh
  omega

set_option maxHeartbeats 3200000 in
set_option maxRecDepth 100000 in
theorem next_any (fb tb : Nat) (p t : ByteArray) (bad far : Nat → Nat) (hp : 1 ≤ p.size) (hs : p.size < 4294967296) (ht : t.size < 4294967296) (w : World) (R : Ready w fb tb p bad far) :
    Calls Try.prog 42 #[.pointer (some ⟨fb, 0, none⟩), .string t] w fun e w' => e = .returned (.int .i64 (index t.data.toList p.data.toList)) ∧ ∃ n, w' = w.drewN n := by
  have HR := Lib.hid R
  have h1 := R.fin.pat
  clear R
  go_enter Try.func42, Try.ntmps42
  go_wp2
  go_loopw [5, 6] (fun vi _ wr => ∃ (i n : Nat), wr = w.drewN n ∧ vi = .int .i64 i ∧ p.size ≤ i + 1 ∧ i ≤ t.size + 8589934592 ∧ Hid (NoOcc t.data.toList p.data.toList (i + 1 - p.size))) (fun vi _ _ => t.size - (RowKit.intOf vi).toNat)
  case atStart => exact ⟨p.size - 1, 0, rfl, by congr 1; omega, by omega, by omega, by show NoOcc _ _ _; rw [show p.size - 1 + 1 - p.size = 0 by omega]; exact NoOcc.zero _ _⟩
  case round =>
    obtain ⟨i, n, rfl, rfl, hi1, hi2, hno⟩ := hrel
    by_cases hlt : i < t.size
    · obtain ⟨p0, hp0⟩ : ∃ p0 : Nat, p0 + p.size = i + 1 := ⟨i + 1 - p.size, by omega⟩
      have i1 : (i : Int) < t.size := by omega
      have hno2 : Hid (NoOcc t.data.toList p.data.toList p0) := by have := hno.out; rwa [show i + 1 - p.size = p0 by omega] at this
      clear hno
      go_wp2
      go_loopw [5, 6] (fun vi vj wr => ∃ (k n : Nat), wr = w.drewN n ∧ k ≤ p.size ∧ vi = .int .i64 ((p0 : Int) + k - 1) ∧ vj = .int .i64 ((k : Int) - 1) ∧ Hid (∀ x, k ≤ x → x < p.size → gb t (p0 + x) = gb p x)) (fun _ vj _ => ((RowKit.intOf vj) + 1).toNat)
      case atStart => exact ⟨p.size, n, rfl, Nat.le_refl _, by congr 1; omega, rfl, fun x h1 h2 => by omega⟩
      case round =>
        obtain ⟨k, n, rfl, hk, rfl, rfl, hm⟩ := hrel
        by_cases hk1 : 1 ≤ k
        · have z1 : p0 + k - 1 < t.size := by omega
          have z2 : k - 1 < p.size := by omega
          have x3 := idx t ((p0 : Int) + k - 1) (p0 + k - 1) z1 (by omega)
          have x4 := idx p ((k : Int) - 1) (k - 1) z2 (by omega)
          have i2 : decide ((0 : Int) ≤ (k : Int) - 1) = true := by simp; omega
          have i3 : decide ((1 : Int) ≤ (k : Int)) = true := by simp; omega
          have e1 := gb_eq t _ z1
          have e2 := gb_eq p _ z2
          by_cases hq : t[p0 + k - 1] = p[k - 1]
          · have hq' : ((t[p0 + k - 1].toNat : Int) == (p[k - 1].toNat : Int)) = true := by rw [hq]; simp
            have hm2 : Hid (∀ x, k - 1 ≤ x → x < p.size → gb t (p0 + x) = gb p x) := fun x h1 h2 => by
              by_cases e : x = k - 1
              · subst e; rw [show p0 + (k - 1) = p0 + k - 1 by omega, e1, e2, hq]
              · exact hm.out x (by omega) h2
            clear e1 e2 hq hm
            go_wp2
            go_quiet (fail)
            go_wp2
            go_roundw
            case rel => exact ⟨k - 1, _, rfl, by omega, by congr 1; omega, by congr 1; omega, hm2⟩
            case measure => simp [RowKit.intOf]; omega
          · have hq' : ((t[p0 + k - 1].toNat : Int) == (p[k - 1].toNat : Int)) = false := by
              rw [beq_eq_false_iff_ne]; intro e; exact hq (UInt8.toNat_inj.1 (by omega))
            have hbnd := HR.out.badLe t[p0 + k - 1]
            have hfnd := HR.out.farLe (k - 1) (by omega)
            have c1 := HR.out.fin.bads t[p0 + k - 1].toNat (t[p0 + k - 1].toNat_lt)
            have c2 := HR.out.fin.slot
            have c3 := HR.out.fin.goods (k - 1) (by omega)
            obtain ⟨bv, hbv⟩ : ∃ bv : Nat, bv = bad t[p0 + k - 1].toNat := ⟨_, rfl⟩
            obtain ⟨gv, hgv⟩ : ∃ gv : Nat, gv = far (k - 1) + (p.size - 1 - (k - 1)) := ⟨_, rfl⟩
            have c3' : w.cell? ⟨tb, k - 1, none⟩ = some (.int .i64 (gv : Int)) := by rw [c3, hgv]; congr 2
            have c1' : w.cell? ⟨fb, 1 + t[p0 + k - 1].toNat, none⟩ = some (.int .i64 (bv : Int)) := by rw [c1, hbv]
            have hbv2 : bv ≤ p.size := by rw [hbv]; exact hbnd
            have hgv2 : gv ≤ 2 * p.size := by omega
            have HN := Lib.hid (noOcc_skip2 t p hp p0 (k - 1) (far (k - 1)) (fun c => bad c.toNat) (by omega) hno2.out (HR.out.isGood _ (by omega)) HR.out.isBad (by rw [show p0 + (k - 1) = p0 + k - 1 by omega, e1, e2]; exact hq) (fun x h1 h2 => hm.out x (by omega) h2) (max bv gv) (by rw [hbv, hgv, show p0 + (k - 1) = p0 + k - 1 by omega, e1]))
            have hgv1 : p.size - k + 1 ≤ gv := by have := (HR.out.isGood (k - 1) (by omega)).1; omega
            have Hbv := Lib.hid hbv
            have Hgv := Lib.hid hgv
            have i5 : (t[p0 + k - 1].toNat : Int) < 256 := by have := t[p0 + k - 1].toNat_lt; omega
            have i6 : (k : Int) - 1 < p.size := by omega
            have i7 : (0 : Int) ≤ (k : Int) - 1 := by omega
            have i8 : ((k : Int) - 1).toNat = k - 1 := by omega
            clear hbv hgv c1 c3 hbnd hfnd e1 e2 hq
            go_wp2
            go_quiet (fail)
            go_wp2
            clear hq' x4
            go_quiet (fail)
            go_wp2
            have hmx : (max (bv : Int) (gv : Int)) = ((max bv gv : Nat) : Int) := by omega
            rw [hmx]
            have m1 : gv ≤ max bv gv := Nat.le_max_right _ _
            have m2 : max bv gv ≤ 2 * p.size := Nat.max_le.2 ⟨by omega, hgv2⟩
            generalize max bv gv = M at *
            refine ⟨⟨p0 + (k - 1) + M, _, World.drewN_drewN _ _ _, by congr 1; omega, by omega, by omega, HN⟩, ?_⟩
            simp [RowKit.intOf]; omega
        · obtain rfl : k = 0 := by omega
          have i2 : decide ((0 : Int) ≤ ((0 : Nat) : Int) - 1) = false := by decide
          have ho : occAt t.data.toList p.data.toList p0 = true := (occ_iff t p p0 (by omega)).2 (fun x hx => hm.out x (Nat.zero_le _) hx)
          have Hf := Lib.hid (index_hit hno2.out (by simp; omega) ho)
          clear ho
          go_wp2
          go_quiet (fail)
          go_wp2
          go_ret
          rw [Hf.out]
          exact ⟨by first | rfl | (congr 2; omega), by first | exact ⟨_, rfl⟩ | exact ⟨_, World.drewN_drewN _ _ _⟩⟩
    · have Hf := Lib.hid (index_past (s := t.data.toList) (sub := p.data.toList) (fun e => nonempty p hp e) hno.out (by simp; omega))
      go_wp2
      go_ret
      rw [Hf.out]
      exact ⟨rfl, n, rfl⟩
end Go.Proofs.Ytlhlehmmaoadgaa
