/- The reference's SeBreaks: where a text is parted. -/
import Derived.Test.YthnbifkcbeldmaaDoorSeStarts
import Derived.Test.YthnbifkcbeldmaaDoorSpecAt
import Derived.Test.YthnbifkcbeldmaaDoorBrk
import Derived.Deep.Onto
namespace Go.Proofs.YthnbifkcbeldmaaDoor
open Go.RowKit Go.Lib
set_option linter.unusedVariables false

theorem empty_of (s : ByteArray) : s.toList.isEmpty = decide (s.size = 0) := by
  rw [Lib.toList_data, Bool.eq_iff_iff, List.isEmpty_iff, decide_eq_true_iff, ← List.length_eq_zero_iff]
  have : s.data.toList.length = s.size := by simp
  rw [this]
/-- where a text is parted by another one -/
def breaks (s sep : ByteArray) (m : Int) : List Nat := cutMost m (if sep.size = 0 then (starts s).tail else brk s.data.toList sep.data.toList 0)
theorem starts_le (s : ByteArray) : (starts s).length ≤ s.size := by rw [starts_length]; exact runeCount_le s

/-- a row of numbers, read -/
theorem own_ints {w : World} {base : Nat} {v : Value} {l : List Nat} (h : w.ownsRow base 3 1 v l.length (l.map fun i : Nat => Value.int .i64 (i : Int))) :
    ∃ a cap, v = .slice a l.length cap ∧ l.length ≤ cap ∧ ∀ k (hk : k < l.length), ∃ g, a = some ⟨g, 0, none⟩ ∧ g < w.heap.size ∧ w.cell? ⟨g, k, none⟩ = some (.int .i64 (l[k] : Int)) := by
  have hlt := h.lt
  have hc0 := @World.ownsRow.cells _ _ _ _ _ _ _ h
  rcases h.2 with ⟨rfl, hn⟩ | ⟨g, cap, cur, rfl, _, _, h1, _⟩
  · exact ⟨none, 0, by rw [hn], by omega, fun k hk => by omega⟩
  · refine ⟨_, cap, rfl, h1, fun k hk => ⟨g, rfl, (hlt g rfl).2, ?_⟩⟩
    have := hc0 (g := g) rfl k (.int .i64 (l[k] : Int)) (by simp [hk])
    rw [show (⟨g, 0, none⟩ : Addr).add k = ⟨g, k, none⟩ by unfold Addr.add; split <;> simp_all] at this
    exact this

def BrRel (s sep : ByteArray) (m : Int) (w : World) (v i : Value) (wr : World) : Prop :=
  ∃ (pos : Nat) (d : List Nat), i = .int .i64 pos ∧ d ++ brk s.data.toList sep.data.toList pos = brk s.data.toList sep.data.toList 0 ∧ pos ≤ s.size ∧ d.length ≤ pos ∧
    wr.ownsRow w.heap.size 3 1 v (cutMost m d).length ((cutMost m d).map fun i : Nat => Value.int .i64 (i : Int)) ∧ Below w.heap.size w wr

theorem brRel_hit {s sep : ByteArray} {m : Int} {w wr w1 : World} {v v1 : Value} {pos : Nat} {d : List Nat} (h1 : 1 ≤ sep.size) (hr : pos + sep.size ≤ s.size) (ho : occAt s.data.toList sep.data.toList pos = true)
    (hm : m < 0 ∨ ((cutMost m d).length : Int) < m)
    (hd : d ++ brk s.data.toList sep.data.toList pos = brk s.data.toList sep.data.toList 0) (hdl : d.length ≤ pos)
    (hB : Below w.heap.size w wr) (hown : wr.ownsRow w.heap.size 3 1 v (cutMost m d).length ((cutMost m d).map fun i : Nat => Value.int .i64 (i : Int)))
    (o : Obj) (hown1 : w1.ownsRow w.heap.size 3 1 v1 ((cutMost m d).length + 1) (((cutMost m d).map fun i : Nat => Value.int .i64 (i : Int)) ++ [.int .i64 pos])) (hg : (wr.alloc o).grownBy w1 v.ownBlock) :
    BrRel s sep m w v1 (.int .i64 ((pos + sep.size : Nat) : Int)) w1 := by
  refine ⟨_, d ++ [pos], rfl, ?_, hr, by simp; omega, ?_, ?_⟩
  · rw [← hd, brk_hit (by simpa using h1) (by simpa using hr) ho]; simp
  · rw [cutMost_snoc d pos hm]; simpa using hown1
  · exact (hB.alloc hB.size o).grown hg (Nat.le_trans hB.size (by simp)) (fun k hk => (hown.lt k hk).1)

set_option maxHeartbeats 3200000 in
theorem seBreaks_text (s sep : ByteArray) (m : Int) (hs : s.size ≤ 4294967296) (hp : sep.size ≤ 4294967296) (h1 : 1 ≤ sep.size) (w : World) :
    Calls Tryd.prog 51 #[.string s, .string sep, .int .i64 m] w (RetInts w (breaks s sep m)) := by
  have E := Lib.hid (show breaks s sep m = cutMost m (brk s.data.toList sep.data.toList 0) by unfold breaks; rw [if_neg (by omega)])
  rw [E.out]
  clear E
  have he : sep.toList.isEmpty = false := by rw [empty_of]; exact decide_eq_false (by omega)
  go_enter Tryd.func51, Tryd.ntmps51
  go_wp2_with fail
  go_loopw [7, 10] (BrRel s sep m w) (fun _ i _ => s.size + 1 - (RowKit.intOf i).toNat)
  case atStart => exact ⟨0, [], rfl, rfl, Nat.zero_le _, Nat.le_refl _, by simpa [cutMost] using World.ownsRow_nil _ _ _ _, Below.refl _ _⟩
  case round =>
    obtain ⟨pos, d, rfl, hd, hpl, hdl, hown, hB⟩ := hrel
    obtain ⟨a, cap, rfl, hcap, _⟩ := own_ints hown
    have hcl := cutMost_len m d
    have D := Lib.hid hd
    clear hd
    by_cases hr : pos + sep.size ≤ s.size
    · have g1 : decide ((pos : Int) + sep.size ≤ s.size) = true := by simp; omega
      by_cases hm : m < 0 ∨ ((cutMost m d).length : Int) < m
      · have HM := Lib.hid hm
        have g23 : (decide (m < 0) = true) ∨ (decide (m < 0) = false ∧ decide (((cutMost m d).length : Int) < m) = true) := by
          rcases hm with h | h
          · exact .inl (by simpa using h)
          · by_cases h' : m < 0
            · exact .inl (by simpa using h')
            · exact .inr ⟨by simpa using h', by simpa using h⟩
        clear hm
        cases ho : occAt s.data.toList sep.data.toList pos with
        | true =>
          have HO := Lib.hid ho
          clear ho
          rcases g23 with g2 | ⟨g2, g3⟩
          all_goals
            go_wp2_with (first
              | (go_at_call 86; refine (seAt s sep pos (by omega) (by omega) (by omega) (by omega) _).mono ?_; rintro e w' ⟨rfl, rfl⟩; simp only [Int.toNat_natCast]; rw [HO.out])
              | (at_builtin; refine app_int rfl _ _ rfl _ w.heap.size _ _ _ _ (by exact rfl) (by exact rfl) hown (by omega) hB.size ?_; intro v1 w1 hown1 hg1))
            have H := Lib.hid (brRel_hit h1 hr HO.out HM.out D.out hdl hB hown _ hown1 hg1)
            clear hown1 hg1
            go_wp2_with fail
            go_roundw
            case rel => simpa using H.out
            case measure => simp [RowKit.intOf]; omega
        | false =>
          have HO := Lib.hid ho
          clear ho
          have D2 := Lib.hid (D.out ▸ (brk_miss (by simpa using h1) (by simpa using hr) HO.out ▸ rfl) : d ++ brk s.data.toList sep.data.toList (pos + 1) = brk s.data.toList sep.data.toList 0)
          rcases g23 with g2 | ⟨g2, g3⟩
          all_goals
            go_wp2_with (go_at_call 86; refine (seAt s sep pos (by omega) (by omega) (by omega) (by omega) _).mono ?_; rintro e w' ⟨rfl, rfl⟩; simp only [Int.toNat_natCast]; rw [HO.out])
            go_roundw
            case rel => exact ⟨pos + 1, d, by go_num, D2.out, by omega, by omega, hown, hB⟩
            case measure => simp [RowKit.intOf]; omega
      · have HF := Lib.hid (cutMost_full d (brk s.data.toList sep.data.toList pos) hm)
        have g2 : decide (m < 0) = false := by simp; omega
        have g3 : decide (((cutMost m d).length : Int) < m) = false := by simp; omega
        go_wp2_with fail
        go_ret
        refine ⟨_, rfl, ?_, hB⟩
        rw [← D.out, HF.out]
        exact hown
    · have g1 : decide ((pos : Int) + sep.size ≤ s.size) = false := by simp; omega
      have D2 := Lib.hid (show d = brk s.data.toList sep.data.toList 0 by rw [← D.out, brk_end (by simpa using hr), List.append_nil])
      go_wp2_with fail
      go_ret
      refine ⟨_, rfl, ?_, hB⟩
      rw [← D2.out]
      exact hown

/-- at an empty one: the places but for the first -/
def BeRel (l : List Nat) (m : Int) (w2 : World) (v i : Value) (wr : World) : Prop :=
  ∃ k : Nat, i = .int .i64 k ∧ k ≤ l.length ∧ wr.ownsRow w2.heap.size 3 1 v (cutMost m (l.take k).tail).length ((cutMost m (l.take k).tail).map fun i : Nat => Value.int .i64 (i : Int)) ∧ Below w2.heap.size w2 wr
theorem take_tail_snoc {l : List Nat} {k : Nat} (hk : k < l.length) (h0 : 0 < k) : (l.take (k + 1)).tail = (l.take k).tail ++ [l[k]] := by
  rw [List.take_succ_eq_append_getElem hk]
  cases h : l.take k with
  | nil => have := congrArg List.length h; rw [List.length_take, List.length_nil] at this; omega
  | cons x t => rfl
theorem beRel_hit {l : List Nat} {m : Int} {w2 wr w1 : World} {v v1 : Value} {k : Nat} (hk : k < l.length) (h0 : 0 < k)
    (hm : m < 0 ∨ ((cutMost m (l.take k).tail).length : Int) < m) (hB : Below w2.heap.size w2 wr)
    (hown : wr.ownsRow w2.heap.size 3 1 v (cutMost m (l.take k).tail).length ((cutMost m (l.take k).tail).map fun i : Nat => Value.int .i64 (i : Int)))
    (o : Obj) (hown1 : w1.ownsRow w2.heap.size 3 1 v1 ((cutMost m (l.take k).tail).length + 1) (((cutMost m (l.take k).tail).map fun i : Nat => Value.int .i64 (i : Int)) ++ [.int .i64 l[k]])) (hg : (wr.alloc o).grownBy w1 v.ownBlock) :
    BeRel l m w2 v1 (.int .i64 ((k + 1 : Nat) : Int)) w1 := by
  refine ⟨_, rfl, hk, ?_, below_app hB hown (Nat.le_refl _) hg⟩
  rw [take_tail_snoc hk h0, cutMost_snoc _ _ hm]
  simpa using hown1
theorem beRel_skip {l : List Nat} {m : Int} {w2 wr : World} {v : Value} {k : Nat} (hk : k < l.length)
    (hm : k = 0 ∨ ¬ (m < 0 ∨ ((cutMost m (l.take k).tail).length : Int) < m)) (hB : Below w2.heap.size w2 wr)
    (hown : wr.ownsRow w2.heap.size 3 1 v (cutMost m (l.take k).tail).length ((cutMost m (l.take k).tail).map fun i : Nat => Value.int .i64 (i : Int))) :
    BeRel l m w2 v (.int .i64 ((k + 1 : Nat) : Int)) wr := by
  refine ⟨_, rfl, hk, ?_, hB⟩
  have e : cutMost m (l.take (k + 1)).tail = cutMost m (l.take k).tail := by
    by_cases h0 : k = 0
    · subst h0
      have : (l.take 1).tail = [] := by cases l <;> simp
      rw [Nat.zero_add, this]; simp
    · rw [take_tail_snoc hk (by omega), cutMost_full _ _ (hm.resolve_left h0)]
  rw [e]
  exact hown

set_option maxHeartbeats 3200000 in
theorem seBreaks_empty (s sep : ByteArray) (m : Int) (hs : s.size ≤ 4294967296) (h1 : sep.size = 0) (w : World) :
    Calls Tryd.prog 51 #[.string s, .string sep, .int .i64 m] w (RetInts w (breaks s sep m)) := by
  have E := Lib.hid (show breaks s sep m = cutMost m (starts s).tail by unfold breaks; rw [if_pos h1])
  rw [E.out]
  clear E
  have he : sep.toList.isEmpty = true := by rw [empty_of]; simpa using h1
  have hsl := starts_le s
  clear h1
  go_enter Tryd.func51, Tryd.ntmps51
  go_wp2_with (go_at_call 42; refine (seStarts s hs _).mono ?_; rintro e w2 ⟨v2, rfl, hown2, hB2⟩; obtain ⟨a2, cap2, rfl, hc2, hr2⟩ := own_ints hown2; have HR := Lib.hid hr2; clear hr2)
  generalize hl : starts s = l at *
  have HL := Lib.hid hl
  clear hl
  go_loopw [7, 16] (BeRel l m w2) (fun _ i _ => l.length - (RowKit.intOf i).toNat)
  case atStart => exact ⟨0, rfl, Nat.zero_le _, by simpa [cutMost] using World.ownsRow_nil _ _ _ _, Below.refl _ _⟩
  case round =>
    obtain ⟨k, rfl, hkl, hown, hB⟩ := hrel
    obtain ⟨a, cap, rfl, hcap, _⟩ := own_ints hown
    have hcl := cutMost_len m (l.take k).tail
    have hcl2 : (l.take k).tail.length ≤ k := by rw [List.length_tail, List.length_take]; omega
    by_cases hk : k < l.length
    · obtain ⟨g, rfl, hg, hcell⟩ := HR.out k hk
      have hcell2 : wr.cell? ⟨g, k, none⟩ = some (.int .i64 (l[k] : Int)) := by rw [hB.cell (p := ⟨g, k, none⟩) hg]; exact hcell
      have hkI : (k : Int) < l.length := by omega
      by_cases h0 : k = 0
      · have H := Lib.hid (beRel_skip hk (.inl h0) hB hown)
        have g0 : k ≤ 0 := by omega
        have g1 : decide (0 < k) = false := decide_eq_false (by omega)
        clear h0
        go_wp2_with fail
        go_roundw
        case rel => simpa using H.out
        case measure => simp [RowKit.intOf]; omega
      · have g0 : decide ((0 : Int) < k) = true := by simp; omega
        by_cases hm : m < 0 ∨ ((cutMost m (l.take k).tail).length : Int) < m
        · have HM := Lib.hid hm
          have g23 : (decide (m < 0) = true) ∨ (decide (m < 0) = false ∧ decide (((cutMost m (l.take k).tail).length : Int) < m) = true) := by
            rcases hm with h | h
            · exact .inl (by simpa using h)
            · by_cases h' : m < 0
              · exact .inl (by simpa using h')
              · exact .inr ⟨by simpa using h', by simpa using h⟩
          clear hm
          rcases g23 with g2 | ⟨g2, g3⟩
          all_goals
            go_wp2_with (at_builtin; refine app_int rfl _ _ rfl _ w2.heap.size _ _ _ _ (by exact rfl) (by exact rfl) hown (by omega) hB.size ?_; intro v1 w1 hown1 hg1)
            have H := Lib.hid (beRel_hit hk (by omega) HM.out hB hown _ hown1 hg1)
            clear hown1 hg1
            go_wp2_with fail
            go_roundw
            case rel => simpa using H.out
            case measure => simp [RowKit.intOf]; omega
        · have H := Lib.hid (beRel_skip hk (.inr hm) hB hown)
          have g2 : decide (m < 0) = false := by simp; omega
          have g3 : decide (((cutMost m (l.take k).tail).length : Int) < m) = false := by simp; omega
          clear hm
          go_wp2_with fail
          go_roundw
          case rel => simpa using H.out
          case measure => simp [RowKit.intOf]; omega
    · obtain rfl : k = l.length := by omega
      rw [List.take_length] at hown
      have hkI : ¬ (l.length : Int) < l.length := by omega
      go_wp2_with fail
      go_ret
      exact ⟨_, rfl, hown.mono hB2.size, hB2.trans (hB.mono hB2.size)⟩

theorem seBreaks (s sep : ByteArray) (m : Int) (hs : s.size ≤ 4294967296) (hp : sep.size ≤ 4294967296) (w : World) :
    Calls Tryd.prog 51 #[.string s, .string sep, .int .i64 m] w (RetInts w (breaks s sep m)) := by
  by_cases h1 : sep.size = 0
  · exact seBreaks_empty s sep m hs h1 w
  · exact seBreaks_text s sep m hs hp (by omega) w
end Go.Proofs.YthnbifkcbeldmaaDoor
