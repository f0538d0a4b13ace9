/- rpIs, rpText, rpReplaces; the reference's Olds and Solid; the laws FnReplace and FnOdd in their second form. -/
import Derived.Test.YteajdljmbjdbkaaMade
import Derived.Test.YteajdljmbjdbkaaLawSingle
namespace Go.Proofs.Yteajdljmbjdbkaa
open Go.RowKit Go.Lib
set_option linter.unusedVariables false

/-- a list of texts of the call's own -/
def OwnS (w : World) (base : Nat) (v : Value) (l : List ByteArray) : Prop := w.ownsRow base 9 1 v l.length (l.map Value.string)
theorem OwnS.nil (w : World) (base : Nat) : OwnS w base (.slice none 0 0) [] := World.ownsRow_nil _ _ _ _
theorem OwnS.form {w : World} {base : Nat} {v : Value} {l : List ByteArray} (h : OwnS w base v l) : ∃ a c, v = .slice a l.length c ∧ (a = none → c = 0) ∧ StrsAt w w.heap.size a l := by
  rcases h.2 with ⟨h1, h2⟩ | ⟨g, cap, cur, h1, _⟩
  · exact ⟨none, 0, (by rw [h1, h2]), fun _ => rfl, fun i hi => absurd hi (by omega)⟩
  · refine ⟨_, _, h1, (fun h => by cases h), ?_⟩
    subst h1
    exact strs_of_own rfl h
theorem OwnS.one {w w2 : World} {base : Nat} {v v2 : Value} {l : List ByteArray} {z : ByteArray} (h : w2.ownsRow base 9 1 v2 (l.length + 1) ((l.map Value.string) ++ [.string z])) : OwnS w2 base v2 (l ++ [z]) := by
  unfold OwnS
  rw [List.length_append, List.map_append]
  exact h
theorem OwnS.two {w2 : World} {base : Nat} {v2 : Value} {l : List ByteArray} {y z : ByteArray} (h : w2.ownsRow base 9 1 v2 (l.length + 2) ((l.map Value.string) ++ [.string y, .string z])) : OwnS w2 base v2 (l ++ [y, z]) := by
  unfold OwnS
  rw [List.length_append, List.map_append]
  exact h
theorem below_own {B base n : Nat} {w wr w1 : World} {v : Value} {xs : List Value} (hB : Below B w wr) (hown : wr.ownsRow base 9 1 v n xs) (hb : B ≤ base) (hBw : B ≤ wr.heap.size) {o : Obj} (hg : (wr.alloc o).grownBy w1 v.ownBlock) : Below B w w1 :=
  (hB.alloc hBw o).grown hg (Nat.le_trans hBw (by simp)) (fun k hk => Nat.le_trans hb (hown.lt k hk).1)
/-- the first olds -/
def oldsTo (l : List ByteArray) : Nat → List ByteArray
  | 0 => []
  | k + 1 => oldsTo l k ++ [l.getD (2 * k) ⟨#[]⟩]
theorem oldsTo_length (l : List ByteArray) : ∀ k, (oldsTo l k).length = k
  | 0 => rfl
  | k + 1 => by rw [oldsTo, List.length_append, oldsTo_length l k]; rfl
theorem oldsTo_get (l : List ByteArray) : ∀ (k j : Nat) (h : j < k), (oldsTo l k)[j]'(by rw [oldsTo_length]; exact h) = l.getD (2 * j) ⟨#[]⟩
  | k + 1, j, h => by
    simp only [oldsTo]
    by_cases e : j = k
    · subst e
      rw [List.getElem_append_right (by rw [oldsTo_length]; exact Nat.le_refl _)]
      simp [oldsTo_length]
    · rw [List.getElem_append_left (by rw [oldsTo_length]; omega)]
      exact oldsTo_get l k j (by omega)
/-- no old text is empty -/
def SolidN (l : List ByteArray) (n : Nat) : Prop := ∀ j, j < n → (l.getD (2 * j) ⟨#[]⟩).size ≠ 0
theorem SolidN.prs {l : List ByteArray} {n : Nat} (hl : l.length = 2 * n) (h : SolidN l n) : SolidL (prs l) := fun p hp e => by
  obtain ⟨i, hi, rfl⟩ := prs_mem l p hp
  have e' : (l.getD (2 * i) ⟨#[]⟩).data.toList = [] := e
  exact h i (by omega) ((nil_iff _).1 e')

set_option maxHeartbeats 1600000 in
set_option maxRecDepth 100000 in
theorem rpIs_yes (n cap : Nat) (a : Option Addr) (l : List ByteArray) (s want : ByteArray) (w : World) (hl : l.length = 2 * n) (hs : StrsAt w w.heap.size a l) (hn : 2 * n ≤ 2147483647) (hk : ∀ s ∈ l, s.size ≤ 2147483647) (hcap : a = none → cap = 0) (hz : s.size ≤ 1073741824)
    (hout : (rep (prs l) true s.data.toList).length ≤ 35184372088832) (hw : want = ⟨(rep (prs l) true s.data.toList).toArray⟩) :
    Calls Try.prog 21 #[.slice a (2 * n) cap, .string s, .string want] w fun e w' => e = .returned (.bool true) ∧ Below w.heap.size w w' := by
  have hnot : ∀ (x : Bool) (w : World), (Op.unary .not (.bool x)).run Try.prog w = .ok (.bool (!x)) w := fun _ _ => rfl
  have HR := Lib.hid (implReplace n cap a l s w hl hs hn hk hcap hz hout)
  subst hw
  clear hl hs hk hout
  go_enter Try.func21, Try.ntmps21
  go_wp2_with (go_at_call 35; refine HR.out.mono ?_; rintro e w1 ⟨rfl, hB⟩)
  go_ret
  exact ⟨by simp, hB⟩
set_option maxHeartbeats 1600000 in
set_option maxRecDepth 100000 in
theorem rpText_even (n cap : Nat) (a : Option Addr) (l : List ByteArray) (s : ByteArray) (w : World) (hl : l.length = 2 * n) (hs : StrsAt w w.heap.size a l) (hn : 2 * n ≤ 2147483647) (hk : ∀ s ∈ l, s.size ≤ 2147483647) (hcap : a = none → cap = 0) (hz : s.size ≤ 1073741824)
    (hout : (rep (prs l) true s.data.toList).length ≤ 35184372088832) :
    Calls Try.prog 26 #[.slice a (2 * n) cap, .string s] w (RepRet w l s) := by
  have HR := Lib.hid (implReplace n cap a l s w hl hs hn hk hcap hz hout)
  clear hl hs hk hout
  go_enter Try.func26, Try.ntmps26
  go_wp2_with (go_at_call 35; refine HR.out.mono ?_; rintro e w1 ⟨rfl, hB⟩)
  go_ret
  exact ⟨rfl, hB⟩
theorem rep_ab : rep (prs [⟨#[97]⟩, ⟨#[98]⟩]) true [97] = [98] := by
  rw [rep_bytes (fun p hp => by simp [prs] at hp; rw [hp]; rfl)]
  rfl
set_option maxHeartbeats 1600000 in
set_option maxRecDepth 100000 in
theorem rpReplaces (w : World) : Calls Try.prog 25 #[] w fun e w' => e = .returned (.bool true) ∧ Below w.heap.size w w' := by
  have HR : Hid (∀ T, Calls Try.prog 21 #[.slice (some ⟨w.heap.size, 0, none⟩) 2 2, .string ⟨#[97]⟩, .string ⟨#[98]⟩] (w.alloc (.cells #[.string ⟨#[97]⟩, .string ⟨#[98]⟩] T)) fun e w' => e = .returned (.bool true) ∧ Below (w.alloc (.cells #[.string ⟨#[97]⟩, .string ⟨#[98]⟩] T)).heap.size (w.alloc (.cells #[.string ⟨#[97]⟩, .string ⟨#[98]⟩] T)) w') := Lib.hid (fun T =>
    rpIs_yes 1 2 (some ⟨w.heap.size, 0, none⟩) [⟨#[97]⟩, ⟨#[98]⟩] ⟨#[97]⟩ ⟨#[98]⟩ _ rfl (strs_two w _ _ T _ (by simp)) (by omega) (fun s hs => by
      simp at hs
      rcases hs with rfl | rfl <;> decide) (fun h => by cases h) (by decide) (by
      rw [show (⟨#[97]⟩ : ByteArray).data.toList = [97] from rfl, rep_ab]; decide) (by
      rw [show (⟨#[97]⟩ : ByteArray).data.toList = [97] from rfl, rep_ab]))
  go_enter Try.func25, Try.ntmps25
  go_wp2_with fail
  refine (HR.out _).mono ?_
  rintro e w1 ⟨rfl, hB⟩
  have hBB := Lib.hid (((Below.refl _ w).alloc (Nat.le_refl w.heap.size) (.cells #[.string ⟨#[97]⟩, .string ⟨#[98]⟩] 9)).trans (hB.mono (by simp)))
  clear hB
  go_wp2_with fail
  go_ret
  exact ⟨rfl, hBB.out⟩
def OlRel (w : World) (l : List ByteArray) (n : Nat) (v3 v4 : Value) (wr : World) : Prop := ∃ j : Nat, v4 = .int .i64 (2 * (j : Int)) ∧ j ≤ n ∧ OwnS wr w.heap.size v3 (oldsTo l j) ∧ Below w.heap.size w wr
def OldsPost (w : World) (l : List ByteArray) (n : Nat) (e : Ending) (w' : World) : Prop := ∃ v, e = .returned v ∧ OwnS w' w.heap.size v (oldsTo l n) ∧ Below w.heap.size w w'
set_option maxHeartbeats 1600000 in
set_option maxRecDepth 100000 in
theorem specOlds (n cap : Nat) (a : Option Addr) (l : List ByteArray) (w : World) (hl : l.length = 2 * n) (hs : StrsAt w w.heap.size a l) (hn : 2 * n ≤ 2147483647) :
    Calls Try.prog 31 #[.slice a (2 * n) cap] w (OldsPost w l n) := by
  have HS := Lib.hid hs
  have HL := Lib.hid hl
  clear hs hl
  go_enter Try.func31, Try.ntmps31
  go_wp2_with fail
  go_loopw [3, 4] (OlRel w l n) (fun _ i _ => 2 * n - (RowKit.intOf i).toNat)
  case atStart => exact ⟨0, rfl, Nat.zero_le _, OwnS.nil _ _, Below.refl _ _⟩
  case round =>
    obtain ⟨j, rfl, hj, hown, B⟩ := hrel
    by_cases hlt : j < n
    · have hjl : 2 * j < l.length := by have := HL.out; omega
      obtain ⟨x, rfl, hx, hc⟩ := HS.out.below B (2 * j) hjl
      have e1 : 2 * (j : Int) < 2 * (n : Int) := by omega
      have e2 : 2 * (j : Int) + 1 < 2 * (n : Int) := by omega
      have hg : l.getD (2 * j) ⟨#[]⟩ = l[2 * j] := by simp [List.getD, hjl]
      have HG := Lib.hid hg
      have HOWN := Lib.hid hown
      have hBs := B.size
      have hol := oldsTo_length l j
      have hol2 : (oldsTo l j).length ≤ 1099511627776 := by omega
      clear hown hg hol
      go_wp2_with (at_builtin; refine app_str (by rfl) _ _ (by rfl) wr w.heap.size (oldsTo l j).length _ ((oldsTo l j).map Value.string) l[2 * j] (by rfl) (by rfl) HOWN.out hol2 hBs ?_; intro v2 w2 hown2 hgr; have HB2 := Lib.hid (below_own B HOWN.out (Nat.le_refl _) hBs hgr); have HO2 := Lib.hid (OwnS.one (w := w2) (v := v2) hown2); clear hown2 hgr)
      go_roundw
      case rel => exact ⟨j + 1, by go_num, by omega, by rw [oldsTo, HG.out]; exact HO2.out, HB2.out⟩
      case measure => simp [RowKit.intOf]; omega
    · obtain rfl : j = n := by omega
      have e1 : ¬ (2 * (j : Int) + 1 < 2 * (j : Int)) := by omega
      clear hlt
      go_wp2_with fail
      go_ret
      exact ⟨_, rfl, hown, B⟩
def SolidPost (w : World) (l : List ByteArray) (n : Nat) (e : Ending) (w' : World) : Prop := (∃ b : Bool, e = .returned (.bool b) ∧ (b = true ↔ SolidN l n)) ∧ Below w.heap.size w w'
set_option maxHeartbeats 1600000 in
set_option maxRecDepth 100000 in
theorem specSolid (n cap : Nat) (a : Option Addr) (l : List ByteArray) (w : World) (hl : l.length = 2 * n) (hs : StrsAt w w.heap.size a l) (hn : 2 * n ≤ 2147483647) :
    Calls Try.prog 20 #[.slice a (2 * n) cap] w (SolidPost w l n) := by
  have HOL := Lib.hid (specOlds n cap a l w hl hs hn)
  clear hs hl
  go_enter Try.func20, Try.ntmps20
  go_wp2_with (go_at_call 31; refine HOL.out.mono ?_; rintro e w1 ⟨v, rfl, hown, hB⟩; obtain ⟨ao, c1, rfl, _, hst⟩ := hown.form; have HST := Lib.hid hst; clear hst hown; rw [oldsTo_length])
  go_loop [8] (fun v => ∃ j : Nat, j ≤ n ∧ v = .int .i64 (j : Int) ∧ ∀ i, i < j → (l.getD (2 * i) ⟨#[]⟩).size ≠ 0) (fun v => n - (RowKit.intOf v).toNat)
  case atStart => exact ⟨0, Nat.zero_le _, rfl, fun i h => absurd h (Nat.not_lt_zero _)⟩
  case round =>
    obtain ⟨j, hj, rfl, hall⟩ := hrel
    have HALL := Lib.hid hall
    clear hall
    by_cases hlt : j < n
    · obtain ⟨x, rfl, _, hc⟩ := HST.out j (by rw [oldsTo_length]; exact hlt)
      rw [oldsTo_get l n j hlt] at hc
      have e1 : (j : Int) < n := by omega
      generalize hz : l.getD (2 * j) ⟨#[]⟩ = z at *
      have HZ := Lib.hid hz
      clear hz
      by_cases h0 : z.size = 0
      · have he : z.toList.isEmpty = true := by rw [empty_of2]; exact decide_eq_true h0
        have H0 := Lib.hid h0
        clear h0
        go_wp2_with fail
        go_ret
        exact ⟨⟨false, rfl, ⟨fun h => (by cases h), fun h => absurd (by rw [HZ.out]; exact H0.out) (h j hlt)⟩⟩, hB⟩
      · have he : z.toList.isEmpty = false := by rw [empty_of2]; exact decide_eq_false h0
        have H0 := Lib.hid h0
        clear h0
        go_wp2_with fail
        go_round
        case rel => exact ⟨j + 1, by omega, by go_num, fun i hi => by
          by_cases e : i = j
          · subst e; rw [HZ.out]; exact H0.out
          · exact HALL.out i (by omega)⟩
        case measure => simp [RowKit.intOf]; omega
    · obtain rfl : j = n := by omega
      have e1 : ¬ ((j : Int) < j) := by omega
      clear hlt
      go_wp2_with fail
      go_ret
      exact ⟨⟨true, rfl, ⟨fun _ => HALL.out, fun _ => rfl⟩⟩, hB⟩
theorem solid_yes {f : Nat} {args : Array Value} {w : World} {l : List ByteArray} {n : Nat} (hc : Calls Try.prog f args w (SolidPost w l n)) (h : SolidN l n) : Calls Try.prog f args w fun e w' => e = .returned (.bool true) ∧ Below w.heap.size w w' :=
  hc.mono (fun e w' ⟨⟨b, hb, hi⟩, hB⟩ => ⟨by rw [hb, hi.2 h], hB⟩)
theorem solid_no {f : Nat} {args : Array Value} {w : World} {l : List ByteArray} {n : Nat} (hc : Calls Try.prog f args w (SolidPost w l n)) (h : ¬ SolidN l n) : Calls Try.prog f args w fun e w' => e = .returned (.bool false) ∧ Below w.heap.size w w' :=
  hc.mono (fun e w' ⟨⟨b, hb, hi⟩, hB⟩ => ⟨by
    have : b = false := by
      cases b
      · rfl
      · exact absurd (hi.1 rfl) h
    rw [hb, this], hB⟩)

/-- what the laws' walks are told -/
structure Args (w : World) (a : Option Addr) (n cap : Nat) (l : List ByteArray) : Prop where
  hl : l.length = 2 * n
  hs : StrsAt w w.heap.size a l
  hn : 2 * n ≤ 1048576
  hk : ∀ s ∈ l, s.size ≤ 1048576
  hcap : a = none → cap = 0
theorem Args.big {w : World} {a : Option Addr} {n cap : Nat} {l : List ByteArray} (h : Args w a n cap l) : ∀ s ∈ l, s.size ≤ 2147483647 := fun s hs => by have := h.hk s hs; omega
theorem Args.later {w w' : World} {a : Option Addr} {n cap : Nat} {l : List ByteArray} (h : Args w a n cap l) (hb : Below w.heap.size w w') : Args w' a n cap l := ⟨h.hl, h.hs.later hb, h.hn, h.hk, h.hcap⟩
theorem short_cap {w : World} {a : Option Addr} {len cap : Nat} {z : List ByteArray} (h : IsStrs w a len cap z) : a = none → cap = 0 := by
  rcases h with ⟨_, _, h, _⟩ | ⟨x, h, _⟩
  · exact fun _ => h
  · exact fun e => by rw [h] at e; cases e
set_option maxHeartbeats 1600000 in
set_option maxRecDepth 100000 in
theorem law_replace (a : Option Addr) (n cap : Nat) (l : List ByteArray) (s : ByteArray) (w : World) (hA : Args w a n cap l) (hz : s.size ≤ 1048576) :
    Calls Try.prog 17 #[.slice a (2 * n) cap, .string s] w fun e w' => e = .returned (.bool true) ∧ Below w.heap.size w w' := by
  have hnot : ∀ (x : Bool) (w : World), (Op.unary .not (.bool x)).run Try.prog w = .ok (.bool (!x)) w := fun _ _ => rfl
  have hfit := Lib.hid (hA.hl ▸ fits_yes a cap w.heap.size l w hA.hs (by have := hA.hn; have := hA.hl; omega) hA.big)
  have HA := Lib.hid hA
  have hn := hA.hn
  have HO := Lib.hid (rep_small1 hA.hk s hz)
  have HSO := Lib.hid (specSolid n cap a l w hA.hl hA.hs (by omega))
  clear hA
  go_enter Try.func17, Try.ntmps17
  go_wp2_with (first
    | (go_at_call 18; refine hfit.out.mono ?_; rintro e w' ⟨rfl, rfl⟩)
    | (go_at_call 19; refine (even_yes a n cap _ (by omega)).mono ?_; rintro e w' ⟨rfl, rfl⟩)
    | (go_at_call 20; refine HSO.out.mono ?_; rintro e w1 ⟨⟨b, rfl, hb⟩, hB⟩; have HB := Lib.hid hb; clear hb)
    | (go_at_call 29; refine (specReplaced a n cap l s _ (HA.out.later hB).hl (HA.out.later hB).hs (by omega) (HA.out.later hB).big (by omega) (Nat.le_trans HO.out (by omega))).mono ?_; rintro e w2 ⟨rfl, hB2⟩; have hB12 := hB.trans (hB2.mono hB.size))
    | (go_at_call 21; refine (rpIs_yes n cap a l s _ _ (HA.out.later hB12).hl (HA.out.later hB12).hs (by omega) (HA.out.later hB12).big (HA.out.later hB12).hcap (by omega) (Nat.le_trans HO.out (by omega)) rfl).mono ?_; rintro e w3 ⟨rfl, hB3⟩))
  all_goals go_ret
  all_goals first
    | exact ⟨rfl, hB12.trans (hB3.mono hB12.size)⟩
    | exact ⟨rfl, hB⟩
set_option maxHeartbeats 800000 in
theorem law_replace_odd (a : Option Addr) (n cap : Nat) (l : List ByteArray) (s : ByteArray) (w : World) (hl : l.length = 2 * n + 1) (hs : StrsAt w w.heap.size a l) (hn : 2 * n + 1 ≤ 1048576) (hk : ∀ s ∈ l, s.size ≤ 1048576) (hz : s.size ≤ 1048576) :
    Calls Try.prog 17 #[.slice a (2 * n + 1) cap, .string s] w fun e w' => e = .returned (.bool true) ∧ Below w.heap.size w w' := by
  have hnot : ∀ (x : Bool) (w : World), (Op.unary .not (.bool x)).run Try.prog w = .ok (.bool (!x)) w := fun _ _ => rfl
  have hfit := Lib.hid (hl ▸ fits_yes a cap w.heap.size l w hs (by omega) (fun s h => by have := hk s h; omega))
  clear hl hs hk
  go_enter Try.func17, Try.ntmps17
  go_wp2_with (first
    | (go_at_call 18; refine hfit.out.mono ?_; rintro e w' ⟨rfl, rfl⟩)
    | (go_at_call 19; refine (even_no a n cap _ (by omega)).mono ?_; rintro e w' ⟨rfl, rfl⟩))
  go_ret
  exact ⟨rfl, Below.refl _ _⟩
theorem walk_FnReplace (a0 : Option Addr) (len0 cap0 : Nat) (z0 : List ByteArray) (a1 : ByteArray) (w : World) (w0 : IsStrs w a0 len0 cap0 z0) (b0 : Short len0 z0) (w1 : a1.size ≤ maxLen) (b1 : a1.size ≤ 1048576) :
    Calls Try.prog 17 #[.slice a0 len0 cap0, .string a1] w fun e w' => e = .returned (.bool true) ∧ Below w.heap.size w w' := by
  have hc := short_cap w0
  obtain ⟨l, rfl, hs, hn, hk, _⟩ := strs_of_short w0 b0
  obtain ⟨n, hn2 | hn2⟩ := even_odd l.length
  · rw [hn2]
    exact law_replace a0 n cap0 l a1 w ⟨hn2, hs, by omega, hk, hc⟩ b1
  · rw [hn2]
    exact law_replace_odd a0 n cap0 l a1 w hn2 hs (by omega) hk b1
set_option maxHeartbeats 1600000 in
set_option maxRecDepth 100000 in
theorem law_odd_even (a : Option Addr) (n cap : Nat) (l : List ByteArray) (s : ByteArray) (w : World) (hA : Args w a n cap l) (hz : s.size ≤ 1048576) :
    Calls Try.prog 16 #[.slice a (2 * n) cap, .string s] w fun e w' => e = .returned (.bool true) ∧ Below w.heap.size w w' := by
  have hnot : ∀ (x : Bool) (w : World), (Op.unary .not (.bool x)).run Try.prog w = .ok (.bool (!x)) w := fun _ _ => rfl
  have hfit := Lib.hid (hA.hl ▸ fits_yes a cap w.heap.size l w hA.hs (by have := hA.hn; have := hA.hl; omega) hA.big)
  have hn := hA.hn
  have HR := Lib.hid (implReplace n cap a l s w hA.hl hA.hs (by omega) hA.big hA.hcap (by omega) (Nat.le_trans (rep_small1 hA.hk s hz) (by omega)))
  have hev : ((2 * (n : Int)) % 2 == 1) = false := beq_eq_false_iff_ne.2 (by omega)
  clear hA
  go_enter Try.func16, Try.ntmps16
  go_wp2_with (first
    | (go_at_call 18; refine hfit.out.mono ?_; rintro e w' ⟨rfl, rfl⟩)
    | (go_at_call 35; refine HR.out.mono ?_; rintro e w1 ⟨rfl, hB⟩))
  go_ret
  exact ⟨by first | rfl | simp, hB⟩
set_option maxHeartbeats 1600000 in
set_option maxRecDepth 100000 in
theorem law_odd_odd (a : Option Addr) (n cap : Nat) (l : List ByteArray) (s : ByteArray) (w : World) (hl : l.length = 2 * n + 1) (hs : StrsAt w w.heap.size a l) (hn : 2 * n + 1 ≤ 1048576) (hk : ∀ s ∈ l, s.size ≤ 1048576) (hz : s.size ≤ 1048576) :
    Calls Try.prog 16 #[.slice a (2 * n + 1) cap, .string s] w fun e w' => e = .returned (.bool true) ∧ Below w.heap.size w w' := by
  have hnot : ∀ (x : Bool) (w : World), (Op.unary .not (.bool x)).run Try.prog w = .ok (.bool (!x)) w := fun _ _ => rfl
  have hfit := Lib.hid (hl ▸ fits_yes a cap w.heap.size l w hs (by omega) (fun s h => by have := hk s h; omega))
  have HR := Lib.hid (implReplace_odd n cap a s w (by omega))
  have hev : ((2 * (n : Int) + 1) % 2 == 1) = true := beq_iff_eq.2 (by omega)
  clear hl hs hk
  go_enter Try.func16, Try.ntmps16
  go_wp2_with (first
    | (go_at_call 18; refine hfit.out.mono ?_; rintro e w' ⟨rfl, rfl⟩)
    | (go_at_call 35; refine HR.out.mono ?_; rintro e w1 ⟨rfl, hB⟩))
  go_ret
  exact ⟨by first | rfl | simp, hB⟩
theorem walk_FnOdd (a0 : Option Addr) (len0 cap0 : Nat) (z0 : List ByteArray) (a1 : ByteArray) (w : World) (w0 : IsStrs w a0 len0 cap0 z0) (b0 : Short len0 z0) (w1 : a1.size ≤ maxLen) (b1 : a1.size ≤ 1048576) :
    Calls Try.prog 16 #[.slice a0 len0 cap0, .string a1] w fun e w' => e = .returned (.bool true) ∧ Below w.heap.size w w' := by
  have hc := short_cap w0
  obtain ⟨l, rfl, hs, hn, hk, _⟩ := strs_of_short w0 b0
  obtain ⟨n, hn2 | hn2⟩ := even_odd l.length
  · rw [hn2]
    exact law_odd_even a0 n cap0 l a1 w ⟨hn2, hs, by omega, hk, hc⟩ b1
  · rw [hn2]
    exact law_odd_odd a0 n cap0 l a1 w hn2 hs (by omega) hk b1
end Go.Proofs.Yteajdljmbjdbkaa
