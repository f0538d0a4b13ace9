/- The law FnKept in its second form. -/
import Derived.Test.YteajdljmbjdbkaaRpLaw
namespace Go.Proofs.Yteajdljmbjdbkaa
open Go.RowKit Go.Lib
set_option linter.unusedVariables false

/-- each text twice -/
def dbl (l : List ByteArray) : List ByteArray := l.flatMap fun x => [x, x]
theorem dbl_length : ∀ l : List ByteArray, (dbl l).length = 2 * l.length
  | [] => rfl
  | x :: l => by
    have h := dbl_length l
    simp only [dbl, List.flatMap_cons, List.length_append, List.length_cons, List.length_nil] at h ⊢
    omega
theorem dbl_more (l : List ByteArray) (j : Nat) (h : j < l.length) : dbl (l.take (j + 1)) = dbl (l.take j) ++ [l[j], l[j]] := by
  rw [List.take_add_one, List.getElem?_eq_getElem h]
  simp only [dbl, List.flatMap_append, List.flatMap_cons, List.flatMap_nil, Option.toList_some, List.append_nil]
theorem dbl_mem {l : List ByteArray} {x : ByteArray} (h : x ∈ dbl l) : x ∈ l := by
  simp only [dbl, List.mem_flatMap] at h
  obtain ⟨y, hy, hx⟩ := h
  simp at hx
  exact hx ▸ hy
theorem dbl_prs : ∀ l : List ByteArray, ∀ p ∈ prs (dbl l), p.2 = p.1
  | [], p, h => by simp [dbl, prs] at h
  | x :: l, p, h => by
    have e : prs (dbl (x :: l)) = (x.data.toList, x.data.toList) :: prs (dbl l) := rfl
    rw [e] at h
    rcases List.mem_cons.1 h with rfl | h
    · rfl
    · exact dbl_prs l p h
def KpRel (w : World) (l : List ByteArray) (v5 v18 : Value) (wr : World) : Prop := ∃ j : Nat, v18 = .int .i64 (j : Int) ∧ j ≤ l.length ∧ OwnS wr w.heap.size v5 (dbl (l.take j)) ∧ Below w.heap.size w wr
set_option maxHeartbeats 1600000 in
set_option maxRecDepth 100000 in
theorem law_kept (a : Option Addr) (cap : Nat) (l : List ByteArray) (s : ByteArray) (w : World) (hs : StrsAt w w.heap.size a l) (hn : l.length ≤ 1048576) (hk : ∀ s ∈ l, s.size ≤ 1048576) (hz : s.size ≤ 1048576) :
    Calls Try.prog 14 #[.slice a l.length cap, .string s] w fun e w' => e = .returned (.bool true) ∧ Below w.heap.size w w' := by
  have hnot : ∀ (x : Bool) (w : World), (Op.unary .not (.bool x)).run Try.prog w = .ok (.bool (!x)) w := fun _ _ => rfl
  have hfit := Lib.hid (fits_yes a cap w.heap.size l w hs (by omega) (fun s h => by have := hk s h; omega))
  have HS := Lib.hid hs
  have HK : Hid (∀ x ∈ dbl l, x.size ≤ 2147483647) := Lib.hid (fun x hx => by have := hk x (dbl_mem hx); omega)
  clear hs hk
  go_enter Try.func14, Try.ntmps14
  go_wp2_with (go_at_call 18; refine hfit.out.mono ?_; rintro e w' ⟨rfl, rfl⟩)
  go_loopw [5, 18] (KpRel w l) (fun _ i _ => l.length - (RowKit.intOf i).toNat)
  case atStart => exact ⟨0, rfl, Nat.zero_le _, OwnS.nil _ _, Below.refl _ _⟩
  case round =>
    obtain ⟨j, rfl, hj, hown, B⟩ := hrel
    have hol := dbl_length (l.take j)
    rw [List.length_take, Nat.min_eq_left hj] at hol
    have HOWN := Lib.hid hown
    have hBs := B.size
    by_cases hlt : j < l.length
    · obtain ⟨x, rfl, hx, hc⟩ := HS.out.below B j hlt
      have e1 : (j : Int) < (l.length : Int) := by omega
      have HG := Lib.hid (dbl_more l j hlt)
      have hol2 : (dbl (l.take j)).length ≤ 1099511627776 := by omega
      clear hown hol
      go_wp2_with (at_builtin; refine app_str2 (by rfl) _ _ (by rfl) wr w.heap.size (dbl (l.take j)).length _ ((dbl (l.take j)).map Value.string) l[j] l[j] (by rfl) (by rfl) HOWN.out hol2 hBs ?_; intro v2 w2 hown2 hgr; have HB2 := Lib.hid (below_own B HOWN.out (Nat.le_refl _) hBs hgr); have HO2 := Lib.hid (OwnS.two (w2 := w2) (v2 := v2) hown2); clear hown2 hgr)
      go_roundw
      case rel => exact ⟨j + 1, by go_num, by omega, by rw [HG.out]; exact HO2.out, HB2.out⟩
      case measure => simp [RowKit.intOf]; omega
    · obtain rfl : j = l.length := by omega
      rw [List.take_length] at hown hol HOWN
      obtain ⟨ao, c1, rfl, hcap, hst⟩ := hown.form
      rw [hol]
      have HST := Lib.hid hst
      have HC := Lib.hid hcap
      have HSO := Lib.hid (specSolid l.length c1 ao (dbl l) wr hol hst (by omega))
      have e1 : ¬ ((l.length : Int) < (l.length : Int)) := by omega
      have HL := Lib.hid hol
      by_cases hsol : SolidN (dbl l) l.length
      · have HY := Lib.hid (solid_yes HSO.out hsol)
        have hrep : rep (prs (dbl l)) true s.data.toList = s.data.toList := rep_kept (hsol.prs hol) (dbl_prs l) _
        have HRI := Lib.hid (fun (w2 : World) (hb : Below wr.heap.size wr w2) => rpIs_yes l.length c1 ao (dbl l) s s w2 HL.out (HST.out.later hb) (by omega) HK.out HC.out (by omega) (by rw [hrep]; simp; omega) (by rw [hrep]))
        clear hown hst hcap hlt hol HOWN hrep HSO hsol
        go_wp2_with (first
          | (go_at_call 20; refine HY.out.mono ?_; rintro e w1 ⟨rfl, hB⟩; have HBB := Lib.hid (B.trans (hB.mono hBs)))
          | (go_at_call 21; refine (HRI.out _ hB).mono ?_; rintro e w3 ⟨rfl, hB3⟩; have HB4 := Lib.hid (HBB.out.trans (hB3.mono HBB.out.size))))
        go_ret
        exact ⟨rfl, HB4.out⟩
      · have HY := Lib.hid (solid_no HSO.out hsol)
        clear hown hst hcap hlt hol HOWN HSO hsol
        go_wp2_with (go_at_call 20; refine HY.out.mono ?_; rintro e w1 ⟨rfl, hB⟩; have HBB := Lib.hid (B.trans (hB.mono hBs)))
        go_ret
        exact ⟨rfl, HBB.out⟩
theorem walk_FnKept (a0 : Option Addr) (len0 cap0 : Nat) (z0 : List ByteArray) (a1 : ByteArray) (w : World) (w0 : IsStrs w a0 len0 cap0 z0) (b0 : Short len0 z0) (w1 : a1.size ≤ maxLen) (b1 : a1.size ≤ 1048576) :
    Calls Try.prog 14 #[.slice a0 len0 cap0, .string a1] w fun e w' => e = .returned (.bool true) ∧ Below w.heap.size w w' := by
  obtain ⟨l, rfl, hs, hn, hk, _⟩ := strs_of_short w0 b0
  exact law_kept a0 cap0 l a1 w hs hn hk b1
end Go.Proofs.Yteajdljmbjdbkaa
