/- rpIs, rpText, rpReplaces; the reference's Olds and Solid; the laws FnReplace and FnOdd in their second form. -/
import Derived.Test.YtlhlehmmaoadgaaMade
import Derived.Test.YtlhlehmmaoadgaaLawSingle
namespace Go.Proofs.Ytlhlehmmaoadgaa
open Go.RowKit Go.Lib
set_option linter.unusedVariables false

/-- a list of texts of the call's own -/
def OwnS (w : World) (base : Nat) (v : Value) (l : List ByteArray) : Prop := w.ownsRow base 9 1 v l.length (l.map Value.string)
theorem OwnS.nil (w : World) (base : Nat) : OwnS w base (.slice none 0 0) [] := World.ownsRow_nil _ _ _ _
theorem OwnS.form {w : World} {base : Nat} {v : Value} {l : List ByteArray} (h : OwnS w base v l) : ∃ a c, v = .slice a l.length c ∧ (a = none → c = 0) ∧ StrsAt w w.heap.size a l := by
  rcases h.2 with ⟨h1, h2⟩ | ⟨g, cap, cur, h1, _⟩
  · exact ⟨none, 0, (by rw [h1, h2]), fun _ => rfl, fun i hi => absurd hi (by omega)⟩
  · refine ⟨_, _, h1, (fun h => by cases h), ?_⟩
    subst h1
    exact strs_of_own rfl h
theorem OwnS.one {w w2 : World} {base : Nat} {v v2 : Value} {l : List ByteArray} {z : ByteArray} (h : w2.ownsRow base 9 1 v2 (l.length + 1) ((l.map Value.string) ++ [.string z])) : OwnS w2 base v2 (l ++ [z]) := by
  unfold OwnS
  rw [List.length_append, List.map_append]
  exact h
theorem OwnS.two {w2 : World} {base : Nat} {v2 : Value} {l : List ByteArray} {y z : ByteArray} (h : w2.ownsRow base 9 1 v2 (l.length + 2) ((l.map Value.string) ++ [.string y, .string z])) : OwnS w2 base v2 (l ++ [y, z]) := by
  unfold OwnS
  rw [List.length_append, List.map_append]
  exact h
theorem below_own {B base n : Nat} {w wr w1 : World} {v : Value} {xs : List Value} (hB : Below B w wr) (hown : wr.ownsRow base 9 1 v n xs) (hb : B ≤ base) (hBw : B ≤ wr.heap.size) {o : Obj} (hg : (wr.alloc o).grownBy w1 v.ownBlock) : Below B w w1 :=
  (hB.alloc hBw o).grown hg (Nat.le_trans hBw (by simp)) (fun k hk => Nat.le_trans hb (hown.lt k hk).1)
/-- the first olds -/
def oldsTo (l : List ByteArray) : Nat → List ByteArray
  | 0 => []
  | k + 1 => oldsTo l k ++ [l.getD (2 * k) ⟨#[]⟩]
theorem oldsTo_length (l : List ByteArray) : ∀ k, (oldsTo l k).length = k
  | 0 => rfl
  | k + 1 => by rw [oldsTo, List.length_append, oldsTo_length l k]; rfl
theorem oldsTo_get (l : List ByteArray) : ∀ (k j : Nat) (h : j < k), (oldsTo l k)[j]'(by rw [oldsTo_length]; exact h) = l.getD (2 * j) ⟨#[]⟩
  | k + 1, j, h => by
    simp only [oldsTo]
    by_cases e : j = k
    · subst e
      rw [List.getElem_append_right (by rw [oldsTo_length]; exact Nat.le_refl _)]
      simp [oldsTo_length]
    · rw [List.getElem_append_left (by rw [oldsTo_length]; omega)]
      exact oldsTo_get l k j (by omega)
/-- no old text is empty -/
def SolidN (l : List ByteArray) (n : Nat) : Prop := ∀ j, j < n → (l.getD (2 * j) ⟨#[]⟩).size ≠ 0
theorem SolidN.prs {l : List ByteArray} {n : Nat} (hl : l.length = 2 * n) (h : SolidN l n) : SolidL (prs l) := fun p hp e => by
  obtain ⟨i, hi, rfl⟩ := prs_mem l p hp
  have e' : (l.getD (2 * i) ⟨#[]⟩).data.toList = [] := e
  exact h i (by omega) ((nil_iff _).1 e')

set_option maxHeartbeats 1600000 in
set_option maxRecDepth 100000 in
theorem rpIs_yes (n cap : Nat) (a : Option Addr) (l : List ByteArray) (s want : ByteArray) (w : World) (hl : l.length = 2 * n) (hs : StrsAt w w.heap.size a l) (hn : 2 * n ≤ 2147483647) (hk : ∀ s ∈ l, s.size ≤ 2147483647) (hcap : a = none → cap = 0) (hz : s.size ≤ 1073741824)
    (hout : (rep (prs l) true s.data.toList).length ≤ 35184372088832) (hw : want = ⟨(rep (prs l) true s.data.toList).toArray⟩) :
    Calls Try.prog 8 #[.slice a (2 * n) cap, .string s, .string want] w fun e w' => e = .returned (.bool true) ∧ Below w.heap.size w w' := by
  have hnot : ∀ (x : Bool) (w : World), (Op.unary .not (.bool x)).run Try.prog w = .ok (.bool (!x)) w := fun _ _ => rfl
  have HR := Lib.hid (implReplace n cap a l s w hl hs hn hk hcap hz hout)
  subst hw
  clear hl hs hk hout
  go_enter Try.func8, Try.ntmps8
  go_wp2_with (go_at_call 10; refine HR.out.mono ?_; rintro e w1 ⟨rfl, hB⟩)
  go_ret
  exact ⟨by simp, hB⟩
theorem rep_ab : rep (prs [⟨#[97]⟩, ⟨#[98]⟩]) true [97] = [98] := by
  rw [rep_bytes (fun p hp => by simp [prs] at hp; rw [hp]; rfl)]
  rfl
set_option maxHeartbeats 1600000 in
set_option maxRecDepth 100000 in
theorem rpReplaces (w : World) : Calls Try.prog 7 #[] w fun e w' => e = .returned (.bool true) ∧ Below w.heap.size w w' := by
  have HR : Hid (∀ T, Calls Try.prog 8 #[.slice (some ⟨w.heap.size, 0, none⟩) 2 2, .string ⟨#[97]⟩, .string ⟨#[98]⟩] (w.alloc (.cells #[.string ⟨#[97]⟩, .string ⟨#[98]⟩] T)) fun e w' => e = .returned (.bool true) ∧ Below (w.alloc (.cells #[.string ⟨#[97]⟩, .string ⟨#[98]⟩] T)).heap.size (w.alloc (.cells #[.string ⟨#[97]⟩, .string ⟨#[98]⟩] T)) w') := Lib.hid (fun T =>
    rpIs_yes 1 2 (some ⟨w.heap.size, 0, none⟩) [⟨#[97]⟩, ⟨#[98]⟩] ⟨#[97]⟩ ⟨#[98]⟩ _ rfl (strs_two w _ _ T _ (by simp)) (by omega) (fun s hs => by
      simp at hs
      rcases hs with rfl | rfl <;> decide) (fun h => by cases h) (by decide) (by
      rw [show (⟨#[97]⟩ : ByteArray).data.toList = [97] from rfl, rep_ab]; decide) (by
      rw [show (⟨#[97]⟩ : ByteArray).data.toList = [97] from rfl, rep_ab]))
  go_enter Try.func7, Try.ntmps7
  go_wp2_with fail
  refine (HR.out _).mono ?_
  rintro e w1 ⟨rfl, hB⟩
  have hBB := Lib.hid (((Below.refl _ w).alloc (Nat.le_refl w.heap.size) (.cells #[.string ⟨#[97]⟩, .string ⟨#[98]⟩] 9)).trans (hB.mono (by simp)))
  clear hB
  go_wp2_with fail
  go_ret
  exact ⟨rfl, hBB.out⟩

/-- what the laws' walks are told -/
structure Args (w : World) (a : Option Addr) (n cap : Nat) (l : List ByteArray) : Prop where
  hl : l.length = 2 * n
  hs : StrsAt w w.heap.size a l
  hn : 2 * n ≤ 1048576
  hk : ∀ s ∈ l, s.size ≤ 1048576
  hcap : a = none → cap = 0
theorem Args.big {w : World} {a : Option Addr} {n cap : Nat} {l : List ByteArray} (h : Args w a n cap l) : ∀ s ∈ l, s.size ≤ 2147483647 := fun s hs => by have := h.hk s hs; omega
theorem Args.later {w w' : World} {a : Option Addr} {n cap : Nat} {l : List ByteArray} (h : Args w a n cap l) (hb : Below w.heap.size w w') : Args w' a n cap l := ⟨h.hl, h.hs.later hb, h.hn, h.hk, h.hcap⟩
theorem short_cap {w : World} {a : Option Addr} {len cap : Nat} {z : List ByteArray} (h : IsStrs w a len cap z) : a = none → cap = 0 := by
  rcases h with ⟨_, _, h, _⟩ | ⟨x, h, _⟩
  · exact fun _ => h
  · exact fun e => by rw [h] at e; cases e
end Go.Proofs.Ytlhlehmmaoadgaa
