/- The law FnSingle in its second form: a replacer of a single text replaces it wherever it stands, from the beginning on. -/
import Derived.Test.YteajdljmbjdbkaaSgl
import Derived.Test.YteajdljmbjdbkaaSpecRepl
import Derived.Test.YteajdljmbjdbkaaLawGen
namespace Go.Proofs.Yteajdljmbjdbkaa
open Go.RowKit Go.Lib
set_option linter.unusedVariables false

set_option maxHeartbeats 1600000 in
theorem zzSingle (p v s : ByteArray) (w : World) (hp : 1 ≤ p.size) (hps : p.size < 2147483648) (hvs : v.size < 2147483648) (hs : s.size < 2147483648)
    (hout : (rep [(p.data.toList, v.data.toList)] true s.data.toList).length ≤ 35184372088832) :
    Calls Try.prog 38 #[.string p, .string v, .string s] w fun e w' => e = .returned (.string ⟨(rep [(p.data.toList, v.data.toList)] true s.data.toList).toArray⟩) ∧ Below w.heap.size w w' := by
  have HO := Lib.hid hout
  clear hout
  go_enter Try.func38, Try.ntmps38
  go_wp2_with (first
    | (go_at_call 46; refine (makeSingle p v hp (by omega) _).mono ?_; rintro e w1 ⟨rb, rfl, hS, hB⟩)
    | (go_at_call 47; refine (sglReplace rb p v s _ hp hps hvs hs (hS _ (fun x _ _ => rfl)) HO.out).mono ?_; rintro e w2 ⟨rfl, hB2⟩))
  go_ret
  exact ⟨rfl, hB.trans (hB2.mono hB.size)⟩
set_option maxHeartbeats 1600000 in
theorem implSingle (p v s : ByteArray) (w : World) (hp : 1 ≤ p.size) (hps : p.size < 2147483648) (hvs : v.size < 2147483648) (hs : s.size < 2147483648)
    (hout : (rep [(p.data.toList, v.data.toList)] true s.data.toList).length ≤ 35184372088832) :
    Calls Try.prog 28 #[.string p, .string v, .string s] w fun e w' => e = .returned (.string ⟨(rep [(p.data.toList, v.data.toList)] true s.data.toList).toArray⟩) ∧ Below w.heap.size w w' := by
  have HO := Lib.hid hout
  clear hout
  go_enter Try.func28, Try.ntmps28
  go_wp2_with (go_at_call 38; refine (zzSingle p v s _ hp hps hvs hs HO.out).mono ?_; rintro e w2 ⟨rfl, hB2⟩)
  go_ret
  exact ⟨rfl, hB2⟩
/-- a new row of two texts -/
theorem strs_two (w : World) (x y : ByteArray) (T : TypeId) (B : Nat) (hB : w.heap.size < B) : StrsAt (w.alloc (.cells #[.string x, .string y] T)) B (some ⟨w.heap.size, 0, none⟩) [x, y] := fun i hi => by
  refine ⟨_, rfl, hB, ?_⟩
  rw [show (⟨w.heap.size, 0, none⟩ : Addr).add i = ⟨w.heap.size, i, none⟩ by unfold Addr.add; split <;> simp_all, World.cell?_alloc_at _ _ _ _ rfl]
  match i, hi with
  | 0, _ => rfl
  | 1, _ => rfl

set_option maxHeartbeats 1600000 in
set_option maxRecDepth 100000 in
theorem walk_FnSingle (a0 a1 a2 : ByteArray) (w : World) (w0 : a0.size ≤ maxLen) (b0 : a0.size ≤ 1048576) (w1 : a1.size ≤ maxLen) (b1 : a1.size ≤ 1048576) (w2 : a2.size ≤ maxLen) (b2 : a2.size ≤ 1048576) :
    Calls Try.prog 7 #[.string a0, .string a1, .string a2] w fun e w' => e = .returned (.bool true) ∧ Below w.heap.size w w' := by
  clear w0 w1 w2
  have hk : ∀ s ∈ [a0, a1], s.size ≤ 1048576 := fun s hs => by
    simp at hs
    rcases hs with rfl | rfl <;> assumption
  have ho := rep_small1 hk a2 b2
  have HO := Lib.hid ho
  have HK : Hid (∀ s ∈ [a0, a1], s.size ≤ 2147483647) := Lib.hid (fun s h => by have := hk s h; omega)
  clear ho hk
  by_cases h0 : a0.size = 0
  · have he : a0.toList.isEmpty = true := by rw [empty_of2]; exact decide_eq_true h0
    clear h0
    go_enter Try.func7, Try.ntmps7
    go_wp2_with fail
    go_ret
    exact ⟨rfl, Below.refl _ _⟩
  · have he : a0.toList.isEmpty = false := by rw [empty_of2]; exact decide_eq_false h0
    go_enter Try.func7, Try.ntmps7
    go_wp2_with (go_at_call 28; refine (implSingle a0 a1 a2 _ (by omega) (by omega) (by omega) (by omega) (Nat.le_trans HO.out (by omega))).mono ?_; rintro e w2 ⟨rfl, hB2⟩)
    refine (specReplaced _ 1 2 [a0, a1] a2 _ rfl (strs_two w2 a0 a1 _ _ (by simp)) (by omega) HK.out (by omega) (Nat.le_trans HO.out (by omega))).mono ?_
    rintro e w3 ⟨rfl, hB3⟩
    go_wp2_with fail
    go_ret
    refine ⟨by simp [prs], (hB2.alloc hB2.size _).trans (hB3.mono ?_)⟩
    have := hB2.size
    simp
    omega
end Go.Proofs.Yteajdljmbjdbkaa
