/- The law FnLookup: the walk returns true. -/
import Derived.Test.YtpoedohdcccpiaaLook
import Derived.Test.YtpoedohdcccpiaaStarts
namespace Go.Proofs.Ytpoedohdcccpiaa
open Go.RowKit Go.Lib
set_option linter.unusedVariables false

theorem even_odd (m : Nat) : ∃ n, m = 2 * n ∨ m = 2 * n + 1 := ⟨m / 2, by omega⟩
theorem occ0 (s k : List UInt8) : occAt s k 0 = true ↔ k <+: s := by
  unfold occAt
  rw [List.drop_zero, List.isPrefixOf_iff_prefix]
theorem occ0_no (s k : List UInt8) (h : ¬ k <+: s) : occAt s k 0 = false := by
  cases ho : occAt s k 0 with
  | false => rfl
  | true => exact absurd ((occ0 s k).1 ho) h
theorem nil_iff (k : ByteArray) : k.data.toList = [] ↔ k.size = 0 := by
  constructor
  · intro h; have := congrArg List.length h; simpa using this
  · intro h; exact List.eq_nil_of_length_eq_zero (by simpa using h)

def LookRet (w : World) (l : List ByteArray) (n : Nat) (s : ByteArray) (ign : Bool) (e : Ending) (w' : World) : Prop :=
  e = .returned (.tuple #[.string (bv (bestOf (keysTo l n) s.data.toList ign)), .int .i64 (bn (bestOf (keysTo l n) s.data.toList ign)), .bool (bf (bestOf (keysTo l n) s.data.toList ign))]) ∧ Below w.heap.size w w'
set_option maxHeartbeats 800000 in
theorem zzLookup (a : Option Addr) (n cap : Nat) (l : List ByteArray) (s : ByteArray) (ign : Bool) (w : World) (hl : l.length = 2 * n) (hs : StrsAt w w.heap.size a l) (hn : n ≤ 2147483647) (hk : ∀ s ∈ l, s.size ≤ 2147483647) (hz : s.size ≤ 2147483647) :
    Calls Try.prog 38 #[.slice a (2 * n) cap, .string s, .bool ign] w (LookRet w l n s ign) := by
  have HL := Lib.hid hl
  have HS := Lib.hid hs
  have HK := Lib.hid hk
  clear hl hs hk
  go_enter Try.func38, Try.ntmps38
  go_wp2_with (first
    | (go_at_call 49; refine (makeGeneric a n cap l _ HL.out HS.out (by omega) (fun s hs => by have := HK.out s hs; omega)).mono ?_; rintro e w1 ⟨u, fp, rfl, T, R, F, FP, B, HU⟩)
    | (go_at_call 50; refine (lookup_any _ _ _ _ _ s ign _ T R (idxU_le_ts u) FP (by omega)).mono ?_; rintro e w2 ⟨k, rfl, rfl⟩))
  go_ret3
  exact ⟨rfl, below_drewN' B k⟩
set_option maxHeartbeats 800000 in
theorem implLookup (a : Option Addr) (n cap : Nat) (l : List ByteArray) (s : ByteArray) (ign : Bool) (w : World) (hl : l.length = 2 * n) (hs : StrsAt w w.heap.size a l) (hn : n ≤ 2147483647) (hk : ∀ s ∈ l, s.size ≤ 2147483647) (hz : s.size ≤ 2147483647) :
    Calls Try.prog 22 #[.slice a (2 * n) cap, .string s, .bool ign] w (LookRet w l n s ign) := by
  have HL := Lib.hid hl
  have HS := Lib.hid hs
  have HK := Lib.hid hk
  clear hl hs hk
  go_enter Try.func22, Try.ntmps22
  go_wp2_with (go_at_call 38; refine (zzLookup a n cap l s ign _ HL.out HS.out hn HK.out hz).mono ?_; rintro e w1 ⟨rfl, B⟩)
  go_ret3
  exact ⟨rfl, B⟩

set_option maxHeartbeats 3200000 in
set_option maxRecDepth 100000 in
/-- past the tests, an even number -/
theorem law_lookup (a : Option Addr) (n cap : Nat) (l : List ByteArray) (s : ByteArray) (ign : Bool) (w : World) (hl : l.length = 2 * n) (hs : StrsAt w w.heap.size a l) (hn : 2 * n ≤ 2147483647) (hk : ∀ s ∈ l, s.size ≤ 2147483647) (hz : s.size ≤ 2147483647) :
    Calls Try.prog 7 #[.slice a (2 * n) cap, .string s, .bool ign] w fun e w' => e = .returned (.bool true) ∧ Below w.heap.size w w' := by
  have hfit := Lib.hid (hl ▸ fits_yes a cap w.heap.size l w hs (by omega) hk)
  have HL := Lib.hid hl
  have HS := Lib.hid hs
  have HK := Lib.hid hk
  rcases first_or_none l n s.data.toList ign with ⟨i0, hi0⟩ | hno
  · have hbest := best_first l n (by omega) s.data.toList ign i0 hi0
    obtain ⟨f1, f2, f3, f4⟩ := hi0
    generalize hk0 : l.getD (2 * i0) ⟨#[]⟩ = key at hbest f2 f3
    generalize hv0 : l.getD (2 * i0 + 1) ⟨#[]⟩ = val at hbest
    have HB := Lib.hid hbest
    have K0 := Lib.hid hk0
    have V0 := Lib.hid hv0
    have F2 := Lib.hid f2
    have F3 := Lib.hid f3
    have F4 := Lib.hid f4
    clear hl hs hk hbest f2 f3 f4 hk0 hv0
    go_enter Try.func7, Try.ntmps7
    go_wp2_with (first
      | (go_at_call 20; refine hfit.out.mono ?_; rintro e w' ⟨rfl, rfl⟩)
      | (go_at_call 21; refine (even_yes a n cap _ (by omega)).mono ?_; rintro e w' ⟨rfl, rfl⟩)
      | (go_at_call 22; refine (implLookup a n cap l s ign _ HL.out HS.out (by omega) HK.out hz).mono ?_; rintro e w1 ⟨rfl, B⟩; rw [HB.out]; simp only [bv, bn, bf]))
    have HS2 := Lib.hid (HS.out.below B)
    go_loop [10] (fun i => ∃ j : Nat, j ≤ i0 ∧ i = .int .i64 (2 * (j : Int))) (fun i => 2 * n - (RowKit.intOf i).toNat)
    case atStart => exact ⟨0, Nat.zero_le _, rfl⟩
    case round =>
      obtain ⟨j, hj, rfl⟩ := hrel
      have hjl : 2 * j < l.length := by have := HL.out; omega
      have hjl2 : 2 * j + 1 < l.length := by have := HL.out; omega
      obtain ⟨x, rfl, hx, hc⟩ := HS2.out (2 * j) hjl
      obtain ⟨x', hx', _, hc'⟩ := HS2.out (2 * j + 1) hjl2
      obtain rfl := Option.some.inj hx'
      rw [Addr.add_succ'] at hc'
      have e1 : 2 * (j : Int) < 2 * (n : Int) := by omega
      have e2 : 2 * (j : Int) + 1 < 2 * (n : Int) := by omega
      have hks : l[2 * j].size ≤ 2147483647 := HK.out _ (List.getElem_mem _)
      by_cases e : j = i0
      · subst e
        have HO := Lib.hid ((occ0 _ _).2 F2.out)
        rw [show l[2 * j] = key by rw [← K0.out]; simp [List.getD, hjl]] at hc hks
        rw [show l[2 * j + 1] = val by rw [← V0.out]; simp [List.getD, hjl2]] at hc'
        have hg : ign = false ∨ key.toList.isEmpty = false := by
          cases ign
          · exact .inl rfl
          · right; rw [empty_of2]; exact decide_eq_false (fun h => F3.out ⟨rfl, (nil_iff key).2 h⟩)
        clear F3 F2 F4 HB K0 V0 hfit
        rcases hg with rfl | he
        all_goals
          go_wp2_with (go_at_call 23; refine (startsAt s key 0 (by omega) (by omega) (by omega) (by omega) _).mono ?_; rintro e w' ⟨rfl, rfl⟩; simp only [Int.toNat_zero]; rw [HO.out])
          all_goals (go_ret; exact ⟨by first | rfl | simp, B⟩)
      · have hno := F4.out j (by omega)
        rw [show l.getD (2 * j) ⟨#[]⟩ = l[2 * j] by simp [List.getD, hjl], nil_iff] at hno
        generalize l[2 * j] = key2 at hc hks hno
        have hways : occAt s.data.toList key2.data.toList 0 = false ∨ (occAt s.data.toList key2.data.toList 0 = true ∧ ign = true ∧ key2.toList.isEmpty = true) := by
          by_cases hp : key2.data.toList <+: s.data.toList
          · right
            refine ⟨(occ0 _ _).2 hp, ?_⟩
            cases hi : ign with
            | false => exact absurd ⟨hp, fun h => by rw [hi] at h; cases h.1⟩ hno
            | true =>
              refine ⟨rfl, ?_⟩
              rw [empty_of2]
              by_cases hz0 : key2.size = 0
              · exact decide_eq_true hz0
              · exact absurd ⟨hp, fun h => hz0 h.2⟩ hno
          · exact .inl (occ0_no _ _ hp)
        clear F3 F2 F4 HB K0 V0 hfit hno hc'
        rcases hways with ho | ⟨ho, rfl, he⟩
        all_goals
          have HO := Lib.hid ho
          clear ho
          go_wp2_with (go_at_call 23; refine (startsAt s key2 0 (by omega) (by omega) (by omega) (by omega) _).mono ?_; rintro e w' ⟨rfl, rfl⟩; simp only [Int.toNat_zero]; rw [HO.out])
          go_round
          case rel => exact ⟨j + 1, by omega, by go_num⟩
          case measure => simp [RowKit.intOf]; omega
  · have hbest := best_none l n (by omega) s.data.toList ign hno
    have HB := Lib.hid hbest
    have F4 := Lib.hid hno
    clear hl hs hk hbest hno
    go_enter Try.func7, Try.ntmps7
    go_wp2_with (first
      | (go_at_call 20; refine hfit.out.mono ?_; rintro e w' ⟨rfl, rfl⟩)
      | (go_at_call 21; refine (even_yes a n cap _ (by omega)).mono ?_; rintro e w' ⟨rfl, rfl⟩)
      | (go_at_call 22; refine (implLookup a n cap l s ign _ HL.out HS.out (by omega) HK.out hz).mono ?_; rintro e w1 ⟨rfl, B⟩; rw [HB.out]; simp only [bv, bn, bf]))
    have HS2 := Lib.hid (HS.out.below B)
    go_loop [10] (fun i => ∃ j : Nat, j ≤ n ∧ i = .int .i64 (2 * (j : Int))) (fun i => 2 * n - (RowKit.intOf i).toNat)
    case atStart => exact ⟨0, Nat.zero_le _, rfl⟩
    case round =>
      obtain ⟨j, hj, rfl⟩ := hrel
      by_cases hlt : j < n
      · have hjl : 2 * j < l.length := by have := HL.out; omega
        obtain ⟨x, rfl, hx, hc⟩ := HS2.out (2 * j) hjl
        have e1 : 2 * (j : Int) < 2 * (n : Int) := by omega
        have hks : l[2 * j].size ≤ 2147483647 := HK.out _ (List.getElem_mem _)
        have hno := F4.out j hlt
        rw [show l.getD (2 * j) ⟨#[]⟩ = l[2 * j] by simp [List.getD, hjl], nil_iff] at hno
        generalize l[2 * j] = key2 at hc hks hno
        have hways : occAt s.data.toList key2.data.toList 0 = false ∨ (occAt s.data.toList key2.data.toList 0 = true ∧ ign = true ∧ key2.toList.isEmpty = true) := by
          by_cases hp : key2.data.toList <+: s.data.toList
          · right
            refine ⟨(occ0 _ _).2 hp, ?_⟩
            cases hi : ign with
            | false => exact absurd ⟨hp, fun h => by rw [hi] at h; cases h.1⟩ hno
            | true =>
              refine ⟨rfl, ?_⟩
              rw [empty_of2]
              by_cases hz0 : key2.size = 0
              · exact decide_eq_true hz0
              · exact absurd ⟨hp, fun h => hz0 h.2⟩ hno
          · exact .inl (occ0_no _ _ hp)
        clear F4 HB hfit hno
        rcases hways with ho | ⟨ho, rfl, he⟩
        all_goals
          have HO := Lib.hid ho
          clear ho
          go_wp2_with (go_at_call 23; refine (startsAt s key2 0 (by omega) (by omega) (by omega) (by omega) _).mono ?_; rintro e w' ⟨rfl, rfl⟩; simp only [Int.toNat_zero]; rw [HO.out])
          go_round
          case rel => exact ⟨j + 1, by omega, by go_num⟩
          case measure => simp [RowKit.intOf]; omega
      · obtain rfl : j = n := by omega
        have e1 : ¬ (2 * (j : Int) < 2 * (j : Int)) := by omega
        clear hlt
        go_wp2_with fail
        go_ret
        exact ⟨by first | rfl | simp, B⟩

set_option maxHeartbeats 1600000 in
theorem walk_FnLookup (a0 : Option Addr) (len0 cap0 : Nat) (z0 : List ByteArray) (a1 : ByteArray) (a2 : Bool) (w : World) (w0 : IsStrs w a0 len0 cap0 z0) (w1 : a1.size ≤ maxLen) :
    Calls Try.prog 7 #[.slice a0 len0 cap0, .string a1, .bool a2] w fun e w' => e = .returned (.bool true) ∧ Below w.heap.size w w' := by
  obtain ⟨l, hl, hs, hm, hsz, _⟩ := strs_of w0
  clear w0
  subst hl
  rcases fits_ways l with ⟨h1, h2⟩ | h1 | ⟨h1, i0, hi, hb, hf⟩
  · by_cases h3 : 2147483647 < a1.size
    · have hfit := Lib.hid (fits_yes a0 cap0 w.heap.size l w hs h1 h2)
      unfold maxLen at w1
      clear hs hsz h2
      go_enter Try.func7, Try.ntmps7
      go_wp2_with (go_at_call 20; refine hfit.out.mono ?_; rintro e w' ⟨rfl, rfl⟩)
      go_ret
      exact ⟨rfl, Below.refl _ _⟩
    · obtain ⟨n, hn | hn⟩ := even_odd l.length
      · rw [hn]
        exact law_lookup a0 n cap0 l a1 a2 w hn hs (by omega) h2 (by omega)
      · have hfit := Lib.hid (hn ▸ fits_yes a0 cap0 w.heap.size l w hs h1 h2)
        unfold maxLen at w1
        rw [hn]
        have hn1 : n ≤ 2147483647 := by omega
        clear hs hsz h2 hn hm h1
        go_enter Try.func7, Try.ntmps7
        go_wp2_with (first
          | (go_at_call 20; refine hfit.out.mono ?_; rintro e w' ⟨rfl, rfl⟩)
          | (go_at_call 21; refine (even_no a0 n cap0 _ hn1).mono ?_; rintro e w' ⟨rfl, rfl⟩))
        go_ret
        exact ⟨rfl, Below.refl _ _⟩
  · have hfit := Lib.hid (fits_long a0 cap0 l w h1 hm)
    clear hs hsz
    go_enter Try.func7, Try.ntmps7
    go_wp2_with (go_at_call 20; refine hfit.out.mono ?_; rintro e w' ⟨rfl, rfl⟩)
    go_ret
    exact ⟨rfl, Below.refl _ _⟩
  · have hfit := Lib.hid (fits_no a0 cap0 w.heap.size l w hs h1 i0 hi hb hsz hf)
    clear hs hsz hb hf
    go_enter Try.func7, Try.ntmps7
    go_wp2_with (go_at_call 20; refine hfit.out.mono ?_; rintro e w' ⟨rfl, rfl⟩)
    go_ret
    exact ⟨rfl, Below.refl _ _⟩
end Go.Proofs.Ytpoedohdcccpiaa
