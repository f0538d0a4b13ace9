/- gostrings.Join (after the library's own walk of strings.Join, turned to this program); spec.SeJoined; the law FnStrJoin. -/
import Derived.Test.YthnbifkcbeldmaaBld
import Derived.Test.YthnbifkcbeldmaaFits
import Derived.Test.YthnbifkcbeldmaaBulk
import Derived.Lib.Join
import Derived.Lib.TrimByte
import Derived.DataElems
namespace Go.Proofs.Ythnbifkcbeldmaa
open Go.RowKit Go.Lib
set_option linter.unusedVariables false

theorem strs_short {w : World} {a : Option Addr} {len cap : Nat} {z : List ByteArray} (h : IsStrs w a len cap z) (hb : Short len z) : ∃ l : List ByteArray, l.length = len ∧ StrsAt w w.heap.size a l ∧ len ≤ 1048576 ∧ (∀ s ∈ l, s.size ≤ 1048576) ∧ len ≤ cap := by
  rcases h with ⟨rfl, rfl, rfl, rfl⟩ | ⟨x, rfl, h1, h2, h3, h4, h5⟩
  · exact ⟨[], rfl, fun i h => absurd h (Nat.not_lt_zero _), Nat.zero_le _, (fun s h => by cases h), Nat.le_refl _⟩
  · refine ⟨z.take len, by rw [List.length_take]; omega, fun i hi => ?_, hb.1, hb.2, h1⟩
    rw [List.length_take] at hi
    have hc := h4 i (by omega)
    refine ⟨x, rfl, ?_, ?_⟩
    · have := World.block_lt_of_cell? w _ hc
      rwa [add_block] at this
    · rw [hc, List.getElem_take]
      simp [List.getD, show i < z.length by omega]
theorem joinNone (a : Option Addr) (c : Nat) (sep : ByteArray) (w : World) :
    Calls Try.prog 14 #[.slice a 0 c, .string sep] w fun e w' => e = .returned (.string ⟨#[]⟩) ∧ w' = w := by
  go_enter Try.func14, Try.ntmps14
  go_wp2
  go_ret
  exact ⟨rfl, rfl⟩
theorem joinOne (x : Addr) (c : Nat) (s sep : ByteArray) (w : World) (hc : w.cell? x = some (.string s)) (hc0 : w.cell? (x.add 0) = some (.string s)) :
    Calls Try.prog 14 #[.slice (some x) 1 c, .string sep] w fun e w' => e = .returned (.string s) ∧ w' = w := by
  go_enter Try.func14, Try.ntmps14
  go_wp2
  go_ret
  exact ⟨rfl, rfl⟩
set_option maxHeartbeats 4000000 in
set_option maxRecDepth 100000 in
theorem joinMany (x : Addr) (c : Nat) (xs : List ByteArray) (sep : ByteArray) (w : World)
    (hcells : ∀ (j : Nat) y, xs[j]? = some y → w.cell? (x.add j) = some (.string y))
    (hbk : x.block < w.heap.size) (h2 : 2 ≤ xs.length) (hN : xs.length ≤ 140737488355328) (hcap : xs.length ≤ c)
    (hlen : (Lib.join (xs.map (·.data.toList)) sep.data.toList).length ≤ 140737488355328) :
    Calls Try.prog 14 #[.slice (some x) xs.length c, .string sep] w fun e w' => e = .returned (.string ⟨(Lib.join (xs.map (·.data.toList)) sep.data.toList).toArray⟩) ∧ Below w.heap.size w w' := by
  have HC := Lib.hid hcells
  clear hcells
  -- the lengths
  obtain ⟨x0, r, hxs⟩ : ∃ x0 r, xs = x0 :: r := by
    cases xs with
    | nil => simp at h2
    | cons a t => exact ⟨a, t, rfl⟩
  have hjl : sep.size * (xs.length - 1) + Lib.lens (xs.map (·.data.toList)) ≤ 140737488355328 := by
    have := Lib.join_length x0.data.toList (r.map (·.data.toList)) sep.data.toList
    rw [hxs] at hlen ⊢
    simp only [List.map_cons] at hlen ⊢
    rw [this, List.length_map] at hlen
    rw [Lib.size_eq, List.length_cons, Nat.add_sub_cancel]
    exact hlen
  have hmul : sep.size * (xs.length - 1) ≤ 140737488355328 := by omega
  generalize hM : sep.size * (xs.length - 1) = M at hjl hmul
  have hcast : ((xs.length : Int) - 1) = ((xs.length - 1 : Nat) : Int) := by omega
  have hlt : sep.size < 9223372036854775807 / (xs.length - 1) := by
    have : sep.size + 1 ≤ 9223372036854775807 / (xs.length - 1) := by
      rw [Nat.le_div_iff_mul_le (by omega), Nat.add_mul, hM]
      omega
    omega
  have hdv : ¬ (9223372036854775807 / ((xs.length : Int) - 1) ≤ (sep.size : Int)) := by
    have e : (9223372036854775807 : Int) / ((xs.length - 1 : Nat) : Int) = ((9223372036854775807 / (xs.length - 1) : Nat) : Int) := IntWalk.up_div (x := 9223372036854775807) rfl rfl
    rw [hcast, e]
    generalize 9223372036854775807 / (xs.length - 1) = q at hlt
    omega
  have hprod : wrap64 ((sep.size : Int) * ((xs.length : Int) - 1)) = (M : Int) := by
    have e : (sep.size : Int) * ((xs.length - 1 : Nat) : Int) = ((sep.size * (xs.length - 1) : Nat) : Int) := IntWalk.up_mul rfl rfl
    rw [hcast, e, hM]
    exact IntWalk.wrap64_in _ ⟨by omega, by omega⟩
  have hM0 : sep.size = 0 → M = 0 := fun h => by rw [← hM, h, Nat.zero_mul]
  clear hlt hcast
  have hne0 : ((xs.length : Int) == 0) = false := beq_eq_false_iff_ne.2 (by omega)
  have hne1 : ((xs.length : Int) == 1) = false := beq_eq_false_iff_ne.2 (by omega)
  have Hxs := Lib.hid hxs
  have Hlen := Lib.hid hlen
  clear hxs hlen
  go_enter Try.func14, Try.ntmps14
  go_wp2_with fail
  all_goals (
    go_loop [5, 41] (fun n i => ∃ k : Nat, k ≤ xs.length ∧ i = .int .i64 k ∧ n = .int .i64 ((M + Lib.lens ((xs.map (·.data.toList)).take k) : Nat) : Int)) (fun _ i => xs.length - (RowKit.intOf i).toNat)
    case atStart => exact ⟨0, Nat.zero_le _, rfl, by first | (simp [Lib.lens]; done) | (have := hM0 (by omega); simp [Lib.lens, this])⟩
    case round =>
      obtain ⟨k, hk, rfl, rfl⟩ := hrel
      by_cases hkn : k < xs.length
      · obtain ⟨y, hx⟩ : ∃ y, xs[k]? = some y := ⟨xs[k], List.getElem?_eq_getElem hkn⟩
        have hc := HC.out k y hx
        have hstep := Lib.lens_take_succ (xs.map (·.data.toList)) k y.data.toList (by simp [hx])
        have hbound : Lib.lens ((xs.map (·.data.toList)).take (k + 1)) ≤ Lib.lens (xs.map (·.data.toList)) := Lib.lens_take_le _ _
        rw [← Lib.size_eq] at hstep
        generalize hA1 : Lib.lens ((xs.map (·.data.toList)).take (k + 1)) = A1 at hstep hbound
        generalize Lib.lens ((xs.map (·.data.toList)).take k) = A0 at hstep
        have HA1 := Lib.hid hA1
        clear hA1
        go_wp2
        exact ⟨⟨k + 1, by omega, by go_num, by rw [HA1.out]; refine congrArg _ ?_; omega⟩, by simp [RowKit.intOf]; omega⟩
      · have hke : k = xs.length := by omega
        subst hke
        have hall : (xs.map (·.data.toList)).take xs.length = xs.map (·.data.toList) := List.take_of_length_le (by simp)
        rw [hall]
        generalize hT : Lib.lens (xs.map (·.data.toList)) = T at hjl
        have HT := Lib.hid hT
        clear hT hall
        go_wp2_with fail
        have hMT : ((M : Int) + (T : Int)) = ((M + T : Nat) : Int) := by omega
        rw [hMT]
        refine (Try.Builder_Grow_fresh w.heap.size w.heap.size (M + T) _ (Nat.le_refl _) (heap_alloc_new w _) (by simp) (by omega)).mono ?_
        rintro e w1 ⟨rfl, h1, hb1⟩
        have hb1' : Below w.heap.size w w1 := ((Below.refl w.heap.size w).alloc (Nat.le_refl _) _).trans hb1
        -- the first element
        have hx0 : xs[0]? = some x0 := by rw [Hxs.out]; rfl
        have hc0 : w1.cell? (x.add 0) = some (.string x0) := by
          rw [hb1'.cell (p := x.add 0) (by rw [add_block]; exact hbk)]
          exact HC.out 0 x0 hx0
        have hc00 : w1.cell? x = some (.string x0) := by
          rw [← hc0]
          have e : x.add 0 = x := by unfold Addr.add; split <;> simp_all
          rw [e]
        have H1 : Hid (Bld w1 w.heap.size w.heap.size []) := Lib.hid (Or.inr h1)
        have Hb1 := Lib.hid hb1'
        have hBw1 : w.heap.size ≤ w1.heap.size := hb1'.size
        clear h1 hb1 hb1' hMT
        -- what the builder holds behind k rounds of the second loop; and that it is never longer than the whole
        have hwhole : Lib.join (xs.map (·.data.toList)) sep.data.toList = x0.data.toList ++ Lib.joinTail sep.data.toList (r.map (·.data.toList)) := by
          rw [Hxs.out, List.map_cons, Lib.join_cons]
        have hCle : ∀ k, (x0.data.toList ++ Lib.joinTail sep.data.toList ((r.map (·.data.toList)).take k)).length ≤ 140737488355328 := fun k => by
          have h1 := Hlen.out
          rw [hwhole, List.length_append] at h1
          have h2 := Lib.joinTail_take_le sep.data.toList (r.map (·.data.toList)) k
          rw [List.length_append]
          omega
        have HCle := Lib.hid hCle
        have Hwhole := Lib.hid hwhole
        clear hCle hwhole
        go_wp2_with fail
        refine (bldWrite w.heap.size w.heap.size [] x0 w1 H1.out (by have := HCle.out 0; simp [Lib.joinTail] at this ⊢; omega) hBw1).mono ?_
        rintro e w2 ⟨rfl, h2', hb2⟩
        have hstart : ([] : List UInt8) ++ x0.data.toList = x0.data.toList ++ Lib.joinTail sep.data.toList ((r.map (·.data.toList)).take 0) := by
          simp [Lib.joinTail]
        rw [hstart] at h2'
        have H2 := Lib.hid h2'.bld
        have Hb2 := Lib.hid (Hb1.out.trans hb2)
        clear h2' hb2 hstart
        have hrl : r.length = xs.length - 1 := by rw [Hxs.out]; simp
        go_wp2_with fail
        go_loopw [65] (fun i wr => ∃ k : Nat, k ≤ r.length ∧ i = .int .i64 k ∧ Hid (Bld wr w.heap.size w.heap.size (x0.data.toList ++ Lib.joinTail sep.data.toList ((r.map (·.data.toList)).take k))) ∧ Hid (Below w.heap.size w wr)) (fun i _ => r.length - (RowKit.intOf i).toNat)
        case atStart => exact ⟨0, Nat.zero_le _, rfl, H2, Hb2⟩
        case round =>
          obtain ⟨k, hk', rfl, HB, HW⟩ := hrel
          by_cases hkr : k < r.length
          · obtain ⟨y, hy⟩ : ∃ y, r[k]? = some y := ⟨r[k], List.getElem?_eq_getElem hkr⟩
            have hxy : xs[k + 1]? = some y := by rw [Hxs.out]; simpa using hy
            have hcy : wr.cell? ((x.add 1).add k) = some (.string y) := by
              rw [Addr.add_add, HW.out.cell (p := x.add (1 + k)) (by rw [add_block]; exact hbk), show 1 + k = k + 1 by omega]
              exact HC.out (k + 1) y hxy
            have hcy2 := hcy
            rw [Addr.add_add] at hcy2
            have hcy3 := hcy2
            rw [Nat.add_comm, Addr.add_succ', show x.off + (k + 1) = x.off + 1 + k by omega] at hcy3
            have hBw : w.heap.size ≤ wr.heap.size := HW.out.size
            have hnext : x0.data.toList ++ Lib.joinTail sep.data.toList ((r.map (·.data.toList)).take k) ++ sep.data.toList ++ y.data.toList = x0.data.toList ++ Lib.joinTail sep.data.toList ((r.map (·.data.toList)).take (k + 1)) := by
              rw [Lib.joinTail_take_succ sep.data.toList (r.map (·.data.toList)) k y.data.toList (by simp [hy]), List.append_assoc, List.append_assoc, List.append_assoc]
            have hl1 := HCle.out (k + 1)
            rw [Lib.joinTail_take_succ sep.data.toList (r.map (·.data.toList)) k y.data.toList (by simp [hy])] at hl1
            simp only [List.length_append, ← Lib.size_eq] at hl1
            have hl0 : (x0.data.toList ++ Lib.joinTail sep.data.toList ((r.map (·.data.toList)).take k)).length = x0.size + (Lib.joinTail sep.data.toList ((r.map (·.data.toList)).take k)).length := by
              rw [List.length_append, ← Lib.size_eq]
            generalize (Lib.joinTail sep.data.toList ((r.map (·.data.toList)).take k)).length = J at hl0 hl1
            have Hn := Lib.hid hnext
            clear hnext hy hxy
            go_wp2_with fail
            refine (bldWrite w.heap.size w.heap.size _ sep wr HB.out (by rw [hl0]; omega) hBw).mono ?_
            rintro e w3 ⟨rfl, h3, hb3⟩
            have hBw3 : w.heap.size ≤ w3.heap.size := Nat.le_trans hBw hb3.size
            have H3 := Lib.hid h3
            have Hb3 := Lib.hid hb3
            clear h3 hb3
            go_wp2_with fail
            refine (bldWrite w.heap.size w.heap.size _ y w3 H3.out.bld (by rw [List.length_append, hl0, ← Lib.size_eq]; omega) hBw3).mono ?_
            rintro e w4 ⟨rfl, h4, hb4⟩
            rw [Hn.out] at h4
            have H4 := Lib.hid h4.bld
            have Hb4 := Lib.hid ((HW.out.trans Hb3.out).trans hb4)
            clear h4 hb4
            go_wp2
            exact ⟨⟨k + 1, by omega, by go_num, H4, Hb4⟩, by simp [RowKit.intOf]; omega⟩
          · have hke : k = r.length := by omega
            subst hke
            have hfull : (r.map (·.data.toList)).take r.length = r.map (·.data.toList) := List.take_of_length_le (by simp)
            have hB' := HB.out
            rw [hfull, ← Hwhole.out] at hB'
            have hBw : w.heap.size ≤ wr.heap.size := HW.out.size
            go_wp2_with fail
            refine (Try.Builder_String_any w.heap.size w.heap.size _ wr hB' hBw).mono ?_
            rintro e w5 ⟨rfl, hb5⟩
            have Hb5 := Lib.hid (HW.out.trans hb5)
            clear hb5 hB'
            go_wp2
            go_ret
            exact ⟨rfl, Hb5.out⟩)


theorem joinAll (a : Option Addr) (c : Nat) (l : List ByteArray) (sep : ByteArray) (w : World) (hs : StrsAt w w.heap.size a l) (hN : l.length ≤ 140737488355328) (hcap : l.length ≤ c)
    (hlen : (Lib.join (l.map (·.data.toList)) sep.data.toList).length ≤ 140737488355328) :
    Calls Try.prog 14 #[.slice a l.length c, .string sep] w fun e w' => e = .returned (.string ⟨(Lib.join (l.map (·.data.toList)) sep.data.toList).toArray⟩) ∧ Below w.heap.size w w' := by
  match l, hs, hN, hcap, hlen with
  | [], _, _, _, _ => exact (joinNone a c sep w).mono fun e w' ⟨he, hw⟩ => ⟨he, hw ▸ Below.refl _ _⟩
  | [s], hs, _, _, _ =>
    obtain ⟨x, rfl, hx, hc⟩ := hs 0 (by simp)
    have hc0 : w.cell? x = some (.string s) := by
      have e : x.add 0 = x := by unfold Addr.add; split <;> simp_all
      rw [e] at hc
      exact hc
    refine (joinOne x c s sep w hc0 hc).mono fun e w' ⟨he, hw⟩ => ⟨?_, hw ▸ Below.refl _ _⟩
    rw [he, List.map_cons, List.map_nil, Lib.join_one, Lib.mk_data]
  | s :: t :: r, hs, hN, hcap, hlen =>
    obtain ⟨x, rfl, hx, hc⟩ := hs 0 (by simp)
    exact joinMany x c (s :: t :: r) sep w (fun j y hy => by
      obtain ⟨hj, rfl⟩ := List.getElem?_eq_some_iff.1 hy
      obtain ⟨x', e, _, h⟩ := hs j hj
      obtain rfl := Option.some.inj e
      exact h) hx (by simp) hN hcap hlen
/-- the first texts, joined -/
theorem join_snoc (l : List (List UInt8)) (sep : List UInt8) (k : Nat) (y : List UInt8) (hk : 0 < k) (h : l[k]? = some y) : Lib.join (l.take (k + 1)) sep = Lib.join (l.take k) sep ++ sep ++ y := by
  obtain ⟨k, rfl⟩ : ∃ k', k = k' + 1 := ⟨k - 1, by omega⟩
  cases l with
  | nil => simp at h
  | cons x r =>
    rw [List.take_succ_cons, List.take_succ_cons, Lib.join_cons, Lib.join_cons, Lib.joinTail_take_succ sep r k y (by simpa using h)]
    simp only [List.append_assoc]
def JnRel (l : List ByteArray) (sep : ByteArray) (v5 v10 : Value) : Prop := ∃ (k : Nat) (t : ByteArray), v10 = .int .i64 (k : Int) ∧ k ≤ l.length ∧ v5 = .string t ∧ t.data.toList = Lib.join ((l.map (·.data.toList)).take k) sep.data.toList ∧ t.size ≤ k * 2097152
set_option maxHeartbeats 1600000 in
set_option maxRecDepth 100000 in
theorem seJoined (a : Option Addr) (c : Nat) (l : List ByteArray) (sep : ByteArray) (w : World) (hs : StrsAt w w.heap.size a l) (hN : l.length ≤ 1048576) (hk : ∀ s ∈ l, s.size ≤ 1048576) (hz : sep.size ≤ 1048576) :
    Calls Try.prog 8 #[.slice a l.length c, .string sep] w fun e w' => e = .returned (.string ⟨(Lib.join (l.map (·.data.toList)) sep.data.toList).toArray⟩) ∧ w = w' := by
  have HS := Lib.hid hs
  have HK := Lib.hid hk
  clear hs hk
  go_enter Try.func8, Try.ntmps8
  go_wp2_with fail
  go_loop [5, 10] (JnRel l sep) (fun _ i => l.length - (RowKit.intOf i).toNat)
  case atStart => exact ⟨0, ⟨#[]⟩, rfl, Nat.zero_le _, rfl, rfl, Nat.zero_le _⟩
  case round =>
    obtain ⟨k, t, rfl, hkl, rfl, ht, hts⟩ := hrel
    have HT := Lib.hid ht
    clear ht
    by_cases hlt : k < l.length
    · obtain ⟨x, rfl, hx, hc⟩ := HS.out k hlt
      have hy : l[k].size ≤ 1048576 := HK.out _ (List.getElem_mem _)
      have HL : Hid ((l.map (·.data.toList))[k]? = some l[k].data.toList) := Lib.hid (by simp [hlt])
      generalize l[k] = y at *
      have e1 : (k : Int) < (l.length : Int) := by omega
      have hkm : k * 2097152 ≤ 1048576 * 2097152 := Nat.mul_le_mul (by omega) (Nat.le_refl _)
      have hts2 : t.size ≤ 2199023255552 := by omega
      have HTS := Lib.hid hts
      clear hkm hts
      by_cases h0 : k = 0
      · have e2 : ¬ ((0 : Int) < (k : Int)) := by omega
        have H0 := Lib.hid h0
        clear h0
        have ad : ∀ w : World, (Op.stringOp .add t y).run Try.prog w = .ok (.string (t ++ y)) w := fun w => run_string_add_sum (P := Try.prog) w _ _ (by omega)
        go_wp2_with fail
        go_round
        case rel => exact ⟨k + 1, t ++ y, by go_num, by omega, rfl, by
          rw [ByteArray.data_append, Array.toList_append, HT.out]
          have := HL.out
          rw [H0.out] at this ⊢
          cases hl : l.map (·.data.toList) with
          | nil => rw [hl] at this; simp at this
          | cons p q => rw [hl] at this; simp at this; subst this; simp [Lib.join_one, Lib.join_nil], by rw [ByteArray.size_append]; have := HTS.out; omega⟩
        case measure => simp [RowKit.intOf]; omega
      · have e2 : (0 : Int) < (k : Int) := by omega
        have ad : ∀ w : World, (Op.stringOp .add t sep).run Try.prog w = .ok (.string (t ++ sep)) w := fun w => run_string_add_sum (P := Try.prog) w _ _ (by omega)
        have ad2 : ∀ w : World, (Op.stringOp .add (t ++ sep) y).run Try.prog w = .ok (.string (t ++ sep ++ y)) w := fun w => run_string_add_sum (P := Try.prog) w _ _ (by rw [ByteArray.size_append]; omega)
        go_wp2_with fail
        go_round
        case rel => exact ⟨k + 1, t ++ sep ++ y, by go_num, by omega, rfl, by
          rw [join_snoc _ _ k _ (by omega) HL.out, ByteArray.data_append, Array.toList_append, ByteArray.data_append, Array.toList_append, HT.out], by rw [ByteArray.size_append, ByteArray.size_append]; have := HTS.out; omega⟩
        case measure => simp [RowKit.intOf]; omega
    · obtain rfl : k = l.length := by omega
      have hj : (⟨(Lib.join (l.map (·.data.toList)) sep.data.toList).toArray⟩ : ByteArray) = t := by
        have := HT.out
        rw [List.take_of_length_le (by simp)] at this
        rw [← this]
      have HJ := Lib.hid hj
      clear hj
      have e1 : ¬ ((l.length : Int) < (l.length : Int)) := by omega
      go_wp2_with fail
      go_ret
      exact ⟨by rw [HJ.out]; rfl, rfl⟩
theorem implJoin (a : Option Addr) (c : Nat) (l : List ByteArray) (sep : ByteArray) (w : World) (hs : StrsAt w w.heap.size a l) (hN : l.length ≤ 140737488355328) (hcap : l.length ≤ c)
    (hlen : (Lib.join (l.map (·.data.toList)) sep.data.toList).length ≤ 140737488355328) :
    Calls Try.prog 7 #[.slice a l.length c, .string sep] w fun e w' => e = .returned (.string ⟨(Lib.join (l.map (·.data.toList)) sep.data.toList).toArray⟩) ∧ Below w.heap.size w w' := by
  have HJ := Lib.hid (joinAll a c l sep w hs hN hcap hlen)
  clear hs hlen
  go_enter Try.func7, Try.ntmps7
  go_wp2_with (go_at_call 14; refine HJ.out.mono ?_; rintro e w' ⟨rfl, hB⟩)
  go_ret
  exact ⟨rfl, hB⟩
theorem strs_two (w : World) (y z : ByteArray) (T : TypeId) : StrsAt (w.alloc (.cells #[.string y, .string z] T)) (w.alloc (.cells #[.string y, .string z] T)).heap.size (some ⟨w.heap.size, 0, none⟩) [y, z] := fun i hi => by
  refine ⟨_, rfl, by simp, ?_⟩
  match i, hi with
  | 0, _ => simp [Addr.add]
  | 1, _ => simp [Addr.add]
theorem join_le (l : List (List UInt8)) (sep : List UInt8) (hk : ∀ s ∈ l, s.length ≤ 1048576) (hz : sep.length ≤ 1048576) : (Lib.join l sep).length ≤ l.length * 2097152 := by
  have h : ∀ k, k ≤ l.length → (Lib.join (l.take k) sep).length ≤ k * 2097152 := by
    intro k
    induction k with
    | zero => intro _; simp [Lib.join_nil]
    | succ k ih =>
      intro hl
      have hy : l[k]? = some l[k] := List.getElem?_eq_getElem (by omega)
      have h2 := hk _ (List.getElem_mem (show k < l.length by omega))
      by_cases h0 : k = 0
      · subst h0
        cases l with
        | nil => simp at hl
        | cons p q => simp [Lib.join_one] at h2 ⊢; omega
      · rw [join_snoc l sep k _ (by omega) hy, List.length_append, List.length_append]
        have := ih (by omega)
        omega
  have := h l.length (Nat.le_refl _)
  rwa [List.take_length] at this
set_option maxHeartbeats 1600000 in
set_option maxRecDepth 100000 in
theorem walk_FnStrJoin (a0 : Option Addr) (len0 cap0 : Nat) (z0 : List ByteArray) (a1 : ByteArray) (w : World) (w0 : IsStrs w a0 len0 cap0 z0) (b0 : Short len0 z0) (w1 : a1.size ≤ maxLen) (b1 : a1.size ≤ 1048576) :
    Calls Try.prog 3 #[.slice a0 len0 cap0, .string a1] w fun e w' => e = .returned (.bool true) ∧ Below w.heap.size w w' := by
  have hnot : ∀ (x : Bool) (w : World), (Op.unary .not (.bool x)).run Try.prog w = .ok (.bool (!x)) w := fun _ _ => rfl
  obtain ⟨l, rfl, hs, hn, hk, hcap⟩ := strs_short w0 b0
  have hfit := Lib.hid (fits_yes a0 cap0 w.heap.size l w hs (by omega) (fun s h => by have := hk s h; omega))
  have hjl : (Lib.join (l.map (·.data.toList)) a1.data.toList).length ≤ 140737488355328 := by
    have h1 := join_le (l.map (·.data.toList)) a1.data.toList (fun s hs => by
      obtain ⟨b, hb, rfl⟩ := List.mem_map.1 hs
      have := hk b hb
      rw [← Lib.size_eq]
      exact this) (by rw [← Lib.size_eq]; exact b1)
    rw [List.length_map] at h1
    have h2 : l.length * 2097152 ≤ 1048576 * 2097152 := Nat.mul_le_mul hn (Nat.le_refl _)
    omega
  have HJ := Lib.hid (implJoin a0 cap0 l a1 w hs (by omega) hcap hjl)
  have HSJ : Hid (∀ W, Below w.heap.size w W → Calls Try.prog 8 #[.slice a0 l.length cap0, .string a1] W fun e w' => e = .returned (.string ⟨(Lib.join (l.map (·.data.toList)) a1.data.toList).toArray⟩) ∧ W = w') := Lib.hid (fun W hB =>
    seJoined a0 cap0 l a1 W (fun i hi => by
      obtain ⟨x, e, h1, h2⟩ := hs.below hB i hi
      exact ⟨x, e, Nat.lt_of_lt_of_le h1 hB.size, h2⟩) hn hk b1)
  have HAB : Hid (∀ W : World, Calls Try.prog 7 #[.slice (some ⟨W.heap.size, 0, none⟩) 2 2, .string ⟨#[44]⟩] (W.alloc (.cells #[.string ⟨#[97]⟩, .string ⟨#[98]⟩] 9)) fun e w' => e = .returned (.string ⟨#[97, 44, 98]⟩) ∧ Below (W.alloc (.cells #[.string ⟨#[97]⟩, .string ⟨#[98]⟩] 9)).heap.size (W.alloc (.cells #[.string ⟨#[97]⟩, .string ⟨#[98]⟩] 9)) w') := Lib.hid (fun W =>
    implJoin _ 2 [⟨#[97]⟩, ⟨#[98]⟩] ⟨#[44]⟩ _ (strs_two W _ _ _) (by decide) (by decide) (by decide))
  generalize hg : (⟨(Lib.join (l.map (·.data.toList)) a1.data.toList).toArray⟩ : ByteArray) = g at *
  clear hs hk hjl hg
  go_enter Try.func3, Try.ntmps3
  go_wp2_with (first
    | (go_at_call 6; refine hfit.out.mono ?_; rintro e w' ⟨rfl, rfl⟩)
    | (go_at_call 7; have B2 := B1; refine (HAB.out w1).mono ?_; rintro e w2 ⟨rfl, hB2⟩)
    | (go_at_call 7; refine HJ.out.mono ?_; rintro e w1 ⟨rfl, B1⟩)
    | (go_at_call 8; refine (HSJ.out _ B1).mono ?_; rintro e w1' ⟨rfl, rfl⟩))
  go_ret
  exact ⟨rfl, (B1.alloc B1.size _).trans (hB2.mono (by simp; exact Nat.le_trans B1.size (Nat.le_succ _)))⟩
end Go.Proofs.Ythnbifkcbeldmaa
