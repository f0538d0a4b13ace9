/- impl.made: NewReplacer behind a recover; (*Replacer).Replace and impl.Replace at an even number of texts. -/
import Derived.Test.YtlhlehmmaoadgaaRpl
import Derived.Defers
import Derived.Recover
namespace Go.Proofs.Ytlhlehmmaoadgaa
open Go.RowKit Go.Lib
set_option linter.unusedVariables false

theorem two_new (w : World) (x y : Value) (S T : TypeId) : ((w.alloc (.cells #[x] S)).alloc (.cells #[y] T)).cell? ⟨w.heap.size, 0, none⟩ = some x ∧ ((w.alloc (.cells #[x] S)).alloc (.cells #[y] T)).cell? ⟨w.heap.size + 1, 0, none⟩ = some y ∧ ((w.alloc (.cells #[x] S)).alloc (.cells #[y] T)).frozen? ⟨w.heap.size, 0, none⟩ = false ∧ ((w.alloc (.cells #[x] S)).alloc (.cells #[y] T)).frozen? ⟨w.heap.size + 1, 0, none⟩ = false := by
  have h1 := heap_alloc2_old w (.cells #[x] S) (.cells #[y] T)
  have h2 := heap_alloc2_new w (.cells #[x] S) (.cells #[y] T)
  exact ⟨(Lib.cell_of_heap h1 0).trans rfl, (Lib.cell_of_heap h2 0).trans rfl, Lib.frozen_of_heap h1 0, Lib.frozen_of_heap h2 0⟩
theorem catch_idle (p q : Addr) (w : World) :
    CallsD Try.prog 14 #[.pointer (some p), .pointer (some q)] .returning w fun e u' w' => e = .returned (.tuple #[]) ∧ u' = .returning ∧ w' = w := by
  refine callsD_of_wpS Try.func14 rfl fun c₀ cs hu => ?_
  apply wpS_seq
  apply wpS_region
  simp [wpOpsS, go_sem, recoverD, hu, Try.ntmps14, Exit.thenS]
  refine wpS_cond (t := false) (by simp [Act.eval, Array.replicate]) ?_
  simp only [Bool.false_eq_true, if_false]
  refine wpS_of_wp (wp_skip ?_)
  cases c₀
  simp_all [bodyPostS, results, Try.results14]
theorem catch_panicking (p q : Addr) (x y : Value) (u : TypeId) (pv : Value) (older : List PanicEntry) (w : World) (hc : w.cell? p = some x) (hz : w.frozen? p = false) (hc2 : w.cell? q = some y) (hz2 : w.frozen? q = false) (hne : p ≠ q) :
    CallsD Try.prog 14 #[.pointer (some p), .pointer (some q)] (.panicking ({ v := .iface u pv, recovered := false } :: older)) w fun e u' w' =>
      e = .returned (.tuple #[]) ∧ u' = .panicking ({ v := .iface u pv, recovered := true } :: older) ∧ w' = (w.setCell p (.pointer none)).setCell q (.bool false) := by
  have hc3 : (w.setCell p (.pointer none)).cell? q = some y := (World.cell?_setCell_other _ _ _ _ hne).trans hc2
  have hz3 : (w.setCell p (.pointer none)).frozen? q = false := by simp [hz2]
  refine callsD_of_wpS Try.func14 rfl fun c₀ cs hu => ?_
  apply wpS_seq
  apply wpS_region
  simp [wpOpsS, go_sem, recoverD, hu, Try.ntmps14, Exit.thenS]
  refine wpS_cond (t := true) (by simp [Act.eval, Array.replicate]) ?_
  simp only [if_true]
  apply wpS_region
  simp [wpOpsS, go_sem, hc, hz, hc3, hz3, bodyPostS, results, Try.results14]

set_option maxHeartbeats 1600000 in
set_option maxRecDepth 100000 in
theorem made_even (n cap : Nat) (a : Option Addr) (l : List ByteArray) (w : World) (hl : l.length = 2 * n) (hs : StrsAt w w.heap.size a l) (hn : 2 * n ≤ 2147483647) (hk : ∀ s ∈ l, s.size ≤ 2147483647) (hcap : a = none → cap = 0) :
    Calls Try.prog 11 #[.slice a (2 * n) cap] w fun e w' => ∃ rr, e = .returned (.tuple #[.pointer (some ⟨rr, 0, none⟩), .bool true]) ∧ NewAt w' w.heap.size rr l n ∧ Below w.heap.size w w' := by
  have hmf : ∀ (fn : Fn) (first cap : Array Value) (w : World), (Instr.makeFunc fn first cap).run Try.prog w = .ok (.func fn first cap) w := fun _ _ _ _ => rfl
  have HN : Hid (∀ o1 o2, Calls Try.prog 15 #[.slice a (2 * n) cap] ((w.alloc o1).alloc o2) fun e w' => ∃ rr, e = .returned (.pointer (some ⟨rr, 0, none⟩)) ∧ NewAt w' ((w.alloc o1).alloc o2).heap.size rr l n ∧ Below ((w.alloc o1).alloc o2).heap.size ((w.alloc o1).alloc o2) w') := Lib.hid (fun o1 o2 =>
    newRepl n cap a l _ hl (fun i hi => by obtain ⟨x, e, h1, h2⟩ := hs.below (((Below.refl _ w).alloc (Nat.le_refl _) o1).alloc (by simp) o2) i hi; exact ⟨x, e, Nat.lt_of_lt_of_le h1 (by simp; omega), h2⟩) hn hk hcap)
  clear hl hs hk
  go_enter_defers Try.func11, Try.ntmps11
  go_wp2_with (go_at_call 15; refine (HN.out _ _).mono ?_; rintro e w1 ⟨rr, rfl, hN, hB⟩; obtain ⟨n1, n2, n3, n4⟩ := two_new w (.pointer none) (.bool false) 37 4; have d1 := (hB.cell (p := ⟨w.heap.size, 0, none⟩) (by simp; omega)).trans n1; have d2 := (hB.cell (p := ⟨w.heap.size + 1, 0, none⟩) (by simp)).trans n2; have d3 := (hB.frozen (p := ⟨w.heap.size, 0, none⟩) (by simp; omega)).trans n3; have d4 := (hB.frozen (p := ⟨w.heap.size + 1, 0, none⟩) (by simp)).trans n4; clear n1 n2 n3 n4)
  have g1 : ((w1.setCell ⟨w.heap.size, 0, none⟩ (.pointer (some ⟨rr, 0, none⟩))).setCell ⟨w.heap.size + 1, 0, none⟩ (.bool true)).cell? ⟨w.heap.size, 0, none⟩ = some (.pointer (some ⟨rr, 0, none⟩)) := by
    rw [World.cell?_setCell_other _ _ _ _ (by simp)]
    exact World.cell?_setCell_same _ _ _ d1
  have g2 : ((w1.setCell ⟨w.heap.size, 0, none⟩ (.pointer (some ⟨rr, 0, none⟩))).setCell ⟨w.heap.size + 1, 0, none⟩ (.bool true)).cell? ⟨w.heap.size + 1, 0, none⟩ = some (.bool true) :=
    World.cell?_setCell_same _ _ _ ((World.cell?_setCell_other _ _ _ _ (by simp)).trans d2)
  have hN3 : NewAt ((w1.setCell ⟨w.heap.size, 0, none⟩ (.pointer (some ⟨rr, 0, none⟩))).setCell ⟨w.heap.size + 1, 0, none⟩ (.bool true)) w.heap.size rr l n := by
    refine hN.agree (fun x a1 a2 => ?_) (by simp) (by simp; omega)
    simp at a1
    rw [Below.heap_setCell _ ⟨w.heap.size + 1, 0, none⟩ _ x (by show x ≠ w.heap.size + 1; omega), Below.heap_setCell _ ⟨w.heap.size, 0, none⟩ _ x (by show x ≠ w.heap.size; omega)]
  have hB3 : Below w.heap.size w ((w1.setCell ⟨w.heap.size, 0, none⟩ (.pointer (some ⟨rr, 0, none⟩))).setCell ⟨w.heap.size + 1, 0, none⟩ (.bool true)) :=
    ((((((Below.refl _ w).alloc (Nat.le_refl _) _).alloc (by simp) _).trans (hB.mono (by simp; omega))).setCell (p := ⟨w.heap.size, 0, none⟩) (Nat.le_refl _) _).setCell (p := ⟨w.heap.size + 1, 0, none⟩) (by simp) _)
  generalize (w1.setCell ⟨w.heap.size, 0, none⟩ (.pointer (some ⟨rr, 0, none⟩))).setCell ⟨w.heap.size + 1, 0, none⟩ (.bool true) = w3 at g1 g2 hN3 hB3 ⊢
  refine leaves_cons (f := 14) (args := #[.pointer (some ⟨w.heap.size, 0, none⟩), .pointer (some ⟨w.heap.size + 1, 0, none⟩)]) (by simp) (by simp [go_sem]) ?_
  refine (catch_idle ⟨w.heap.size, 0, none⟩ ⟨w.heap.size + 1, 0, none⟩ _).mono ?_
  rintro e u' w'' ⟨rfl, rfl, rfl⟩
  simp [Leaves, settle, results, Try.results11, go_sem, g1, g2]
  exact ⟨hN3, hB3⟩
set_option maxHeartbeats 1600000 in
set_option maxRecDepth 100000 in
theorem newRepl_odd (n cap : Nat) (a : Option Addr) (w : World) (hn : 2 * n + 1 ≤ 2147483647) :
    Calls Try.prog 15 #[.slice a (2 * n + 1) cap] w fun e w' => (∃ v, e = .panicked [{ v := .iface 9 v, recovered := false }]) ∧ w' = w := by
  have hev : ((2 * (n : Int) + 1) % 2 == 1) = true := beq_iff_eq.2 (by omega)
  go_enter Try.func15, Try.ntmps15
  go_wp2_with fail
  exact ⟨rfl, ⟨_, rfl⟩, rfl⟩
set_option maxHeartbeats 1600000 in
set_option maxRecDepth 100000 in
theorem made_odd (n cap : Nat) (a : Option Addr) (w : World) (hn : 2 * n + 1 ≤ 2147483647) :
    Calls Try.prog 11 #[.slice a (2 * n + 1) cap] w fun e w' => e = .returned (.tuple #[.pointer none, .bool false]) ∧ Below w.heap.size w w' := by
  have hmf : ∀ (fn : Fn) (first cap : Array Value) (w : World), (Instr.makeFunc fn first cap).run Try.prog w = .ok (.func fn first cap) w := fun _ _ _ _ => rfl
  go_enter_defers Try.func11, Try.ntmps11
  go_wp2_with (go_at_call 15; refine (newRepl_odd n cap a _ hn).mono ?_; rintro e w1 ⟨⟨v, rfl⟩, rfl⟩)
  obtain ⟨n1, n2, n3, n4⟩ := two_new w (.pointer none) (.bool false) 37 4
  have hB : Below w.heap.size w ((w.alloc (.cells #[.pointer none] 37)).alloc (.cells #[.bool false] 4)) := ((Below.refl _ w).alloc (Nat.le_refl _) _).alloc (by simp) _
  generalize (w.alloc (.cells #[.pointer none] 37)).alloc (.cells #[.bool false] 4) = w1 at n1 n2 n3 n4 hB ⊢
  refine leaves_cons (f := 14) (args := #[.pointer (some ⟨w.heap.size, 0, none⟩), .pointer (some ⟨w.heap.size + 1, 0, none⟩)]) (by simp) (by simp [go_sem]) ?_
  refine (catch_panicking ⟨w.heap.size, 0, none⟩ ⟨w.heap.size + 1, 0, none⟩ _ _ _ _ [] _ n1 n3 n2 n4 (by simp)).mono ?_
  rintro e u' w'' ⟨rfl, rfl, rfl⟩
  have g1 : ((w1.setCell ⟨w.heap.size, 0, none⟩ (.pointer none)).setCell ⟨w.heap.size + 1, 0, none⟩ (.bool false)).cell? ⟨w.heap.size, 0, none⟩ = some (.pointer none) := by
    rw [World.cell?_setCell_other _ _ _ _ (by simp)]
    exact World.cell?_setCell_same _ _ _ n1
  have g2 : ((w1.setCell ⟨w.heap.size, 0, none⟩ (.pointer none)).setCell ⟨w.heap.size + 1, 0, none⟩ (.bool false)).cell? ⟨w.heap.size + 1, 0, none⟩ = some (.bool false) :=
    World.cell?_setCell_same _ _ _ ((World.cell?_setCell_other _ _ _ _ (by simp)).trans n2)
  have hB3 := (hB.setCell (p := ⟨w.heap.size, 0, none⟩) (Nat.le_refl _) (.pointer none)).setCell (p := ⟨w.heap.size + 1, 0, none⟩) (by simp) (.bool false)
  generalize (w1.setCell ⟨w.heap.size, 0, none⟩ (.pointer none)).setCell ⟨w.heap.size + 1, 0, none⟩ (.bool false) = w3 at g1 g2 hB3 ⊢
  simp [Leaves, settle, results, Try.results11, go_sem, g1, g2]
  exact hB3
theorem aheadRepl (t : TypeId) (rb : Nat) (w : World) (ht : t = 53 ∨ t = 55 ∨ t = 59 ∨ t = 63) : (nilAhead 220 t (.pointer (some ⟨rb, 0, none⟩)) "Replace").run Try.prog w = .ok (some false) w := by
  rcases ht with rfl | rfl | rfl | rfl <;> kernel_rfl
theorem methSingle (a : Addr) (w : World) : (method 220 53 (.pointer (some a)) "Replace").run Try.prog w = .ok (40, .pointer (some a)) w := by kernel_rfl
theorem methGeneric (a : Addr) (w : World) : (method 220 55 (.pointer (some a)) "Replace").run Try.prog w = .ok (51, .pointer (some a)) w := by kernel_rfl
theorem methByte (a : Addr) (w : World) : (method 220 59 (.pointer (some a)) "Replace").run Try.prog w = .ok (54, .pointer (some a)) w := by kernel_rfl
theorem methBytes (a : Addr) (w : World) : (method 220 63 (.pointer (some a)) "Replace").run Try.prog w = .ok (56, .pointer (some a)) w := by kernel_rfl
def RepRet (w : World) (l : List ByteArray) (s : ByteArray) (e : Ending) (w' : World) : Prop := e = .returned (.string ⟨(rep (prs l) true s.data.toList).toArray⟩) ∧ Below w.heap.size w w'
set_option maxHeartbeats 1600000 in
set_option maxRecDepth 100000 in
theorem replReplace (lo rr n : Nat) (l : List ByteArray) (s : ByteArray) (w : World) (hN : NewAt w lo rr l n) (hl : l.length = 2 * n) (hk : ∀ s ∈ l, s.size ≤ 2147483647) (hs : s.size ≤ 1073741824)
    (hout : (rep (prs l) true s.data.toList).length ≤ 35184372088832) :
    Calls Try.prog 13 #[.pointer (some ⟨rr, 0, none⟩), .string s] w (RepRet w l s) := by
  obtain ⟨v, hc, hR⟩ := hN.rpl
  have HO := Lib.hid hout
  have HK := Lib.hid hk
  have HL := Lib.hid hl
  clear hout hk hl
  cases hR with
  | single hl hp h =>
    subst hl
    rename_i p q rb
    have hm := methSingle
    have HP1 := Lib.hid (HK.out p (by simp))
    have HQ1 := Lib.hid (HK.out q (by simp))
    have HS := Lib.hid (sglReplace rb p q s w (by omega) (by have := HP1.out; omega) (by have := HQ1.out; omega) (by omega) h HO.out)
    clear h
    go_enter Try.func13, Try.ntmps13
    go_wp2_with (go_at_call 40; refine HS.out.mono ?_; rintro e w1 ⟨rfl, hB⟩)
    go_ret
    exact ⟨rfl, hB⟩
  | generic h =>
    rename_i rb
    have hm := methGeneric
    have HS := Lib.hid (genReplace rb n l s w h (by omega) HL.out HK.out (Nat.le_trans HO.out (by omega)))
    clear h
    go_enter Try.func13, Try.ntmps13
    go_wp2_with (go_at_call 51; refine HS.out.mono ?_; rintro e w1 ⟨rfl, hB⟩)
    go_ret
    exact ⟨rfl, hB⟩
  | byte hr h hf =>
    rename_i rb f
    have hm := methByte
    have HS := Lib.hid (byteRepl rb f s w (by omega) h)
    have HF := Lib.hid (hf s.data.toList)
    clear h hf
    go_enter Try.func13, Try.ntmps13
    go_wp2_with (go_at_call 54; refine HS.out.mono ?_; rintro e w1 ⟨rfl, hB⟩)
    go_ret
    exact ⟨by rw [HF.out]; rfl, hB⟩
  | bytes h hf hF =>
    rename_i rb F a ks
    have hm := methBytes
    have HF := Lib.hid (hf s.data.toList)
    have HS := Lib.hid (byteStrRepl rb F a ks 2147483647 s w (by omega) (h w (Below.refl _ _)) (fun c t hc => by
      obtain ⟨j, hj, rfl⟩ := hF c t hc
      have h2 := HK.out _ (List.getElem_mem hj)
      rw [show l.getD (2 * j + 1) ⟨#[]⟩ = l[2 * j + 1] by simp [List.getD, hj], show l[2 * j + 1].data.toList.length = l[2 * j + 1].size by simp]
      exact h2) (by have h3 : s.size * (2147483647 + 1) ≤ 1073741824 * 2147483648 := Nat.mul_le_mul hs (by omega); omega) (by rw [← HF.out]; exact Nat.le_trans HO.out (by omega)))
    clear h hf hF
    go_enter Try.func13, Try.ntmps13
    go_wp2_with (go_at_call 56; refine HS.out.mono ?_; rintro e w1 ⟨rfl, hB⟩)
    go_ret
    exact ⟨by rw [HF.out]; rfl, hB⟩
set_option maxHeartbeats 1600000 in
set_option maxRecDepth 100000 in
/-- impl.Replace, an even number of texts -/
theorem implReplace (n cap : Nat) (a : Option Addr) (l : List ByteArray) (s : ByteArray) (w : World) (hl : l.length = 2 * n) (hs : StrsAt w w.heap.size a l) (hn : 2 * n ≤ 2147483647) (hk : ∀ s ∈ l, s.size ≤ 2147483647) (hcap : a = none → cap = 0) (hz : s.size ≤ 1073741824)
    (hout : (rep (prs l) true s.data.toList).length ≤ 35184372088832) :
    Calls Try.prog 10 #[.slice a (2 * n) cap, .string s] w fun e w' => e = .returned (.tuple #[.string ⟨(rep (prs l) true s.data.toList).toArray⟩, .bool false]) ∧ Below w.heap.size w w' := by
  have hnot : ∀ (x : Bool) (w : World), (Op.unary .not (.bool x)).run Try.prog w = .ok (.bool (!x)) w := fun _ _ => rfl
  have HMD := Lib.hid (made_even n cap a l w hl hs hn hk hcap)
  have HL := Lib.hid hl
  have HK := Lib.hid hk
  have HO := Lib.hid hout
  clear hl hs hk hout
  go_enter Try.func10, Try.ntmps10
  go_wp2_with (first
    | (go_at_call 11; refine HMD.out.mono ?_; rintro e w1 ⟨rr, rfl, hN, hB⟩)
    | (go_at_call 13; refine (replReplace _ rr n l s _ hN HL.out HK.out hz HO.out).mono ?_; rintro e w2 ⟨rfl, hB2⟩))
  go_ret2
  exact ⟨rfl, hB.trans (hB2.mono hB.size)⟩
set_option maxHeartbeats 800000 in
/-- an odd one -/
theorem implReplace_odd (n cap : Nat) (a : Option Addr) (s : ByteArray) (w : World) (hn : 2 * n + 1 ≤ 2147483647) :
    Calls Try.prog 10 #[.slice a (2 * n + 1) cap, .string s] w fun e w' => e = .returned (.tuple #[.string ⟨#[]⟩, .bool true]) ∧ Below w.heap.size w w' := by
  have hnot : ∀ (x : Bool) (w : World), (Op.unary .not (.bool x)).run Try.prog w = .ok (.bool (!x)) w := fun _ _ => rfl
  go_enter Try.func10, Try.ntmps10
  go_wp2_with (go_at_call 11; refine (made_odd n cap a _ hn).mono ?_; rintro e w1 ⟨rfl, hB⟩)
  go_ret2
  exact ⟨rfl, hB⟩
end Go.Proofs.Ytlhlehmmaoadgaa
