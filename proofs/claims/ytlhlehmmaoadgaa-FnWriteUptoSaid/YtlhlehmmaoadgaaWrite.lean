/- impl.written and impl.Write; the law FnWrite. -/
import Derived.Test.YtlhlehmmaoadgaaWrote
import Derived.Test.YtlhlehmmaoadgaaRpLaw
namespace Go.Proofs.Ytlhlehmmaoadgaa
open Go.RowKit Go.Lib
set_option linter.unusedVariables false
structure TxtW (w : World) (B : Nat) (v : Value) (acc : List UInt8) : Prop where
  own : OwnB w B v acc
theorem OwnB.set {w : World} {B p : Nat} {v : Value} {acc : List UInt8} (h : OwnB w B v acc) (hp : p < B) (o : Nat) (x : Value) : OwnB (w.setCell ⟨p, o, none⟩ x) B v acc :=
  World.ownsRow.kept h (row := some p) ⟨rfl, rfl, rfl, by simp [World.setCell], fun k _ hk => Below.heap_setCell _ _ _ _ (fun e => hk (by simp [e]))⟩ (Or.inr (Snk.ne h hp))
theorem TxtW.set {w : World} {B p : Nat} {v : Value} {acc : List UInt8} (h : TxtW w B v acc) (hp : p < B) (o : Nat) (x : Value) : TxtW (w.setCell ⟨p, o, none⟩ x) B v acc := ⟨h.own.set hp o x⟩
theorem TxtW.drew {w : World} {B : Nat} {v : Value} {acc : List UInt8} (h : TxtW w B v acc) : TxtW w.drew B v acc := ⟨h.own⟩
def WnPost (w : World) (q : Nat) (R : List UInt8) (e : Ending) (w' : World) : Prop :=
  e = .returned (.agg #[.string ⟨R.toArray⟩, .int .i64 (R.length : Nat), .bool false]) ∧ Bex w.heap.size q w w'
set_option maxHeartbeats 3200000 in
set_option maxRecDepth 100000 in
theorem implWritten (n cap q : Nat) (a : Option Addr) (l : List ByteArray) (s : ByteArray) (w : World) (hq : w.heap[q]? = some (.cells #[.slice none 0 0, .bool false, .int .i64 0] 34 (0, 0)))
    (hl : l.length = 2 * n) (hs : StrsAt w w.heap.size a l) (hn : 2 * n ≤ 2147483647) (hk : ∀ s ∈ l, s.size ≤ 2147483647) (hcap : a = none → cap = 0) (hz : s.size ≤ 1073741824)
    (hout : (rep (prs l) true s.data.toList).length ≤ 35184372088832) :
    Calls Try.prog 9 #[.slice a (2 * n) cap, .string s, .pointer (some ⟨q, 0, none⟩)] w (WnPost w q (rep (prs l) true s.data.toList)) := by
  have hnot : ∀ (x : Bool) (w : World), (Op.unary .not (.bool x)).run Try.prog w = .ok (.bool (!x)) w := fun _ _ => rfl
  have hql : q < w.heap.size := (Array.getElem?_eq_some_iff.1 hq).1
  have HMD := Lib.hid (fun (o : Obj) => made_even n cap a l (w.alloc o) hl (hs.later ((Below.refl _ w).alloc (Nat.le_refl _) o)) hn hk hcap)
  have HL := Lib.hid hl
  have HK := Lib.hid hk
  have HO := Lib.hid hout
  have HQ := Lib.hid hq
  clear hl hs hk hout hq
  obtain ⟨R, hR⟩ : ∃ R, R = rep (prs l) true s.data.toList := ⟨_, rfl⟩
  rw [← hR]
  have HR := Lib.hid hR
  clear hR
  go_enter Try.func9, Try.ntmps9
  go_wp2_with (first
    | (go_at_call 12; go_must (refine (replWrite _ rr n q l s _ hN.out (by simp; omega) (Snk.start (by have := hB.out.size; simp at this; omega) (((hB.out.block q (by simp; omega)).trans (Below.heap_alloc _ _ _ hql)).trans HQ.out)) HL.out HK.out hz HO.out).mono ?_); rintro e w2 ⟨rfl, hS, hX⟩; rw [← HR.out] at hS; rw [← HR.out]; have HS := Lib.hid hS; have HX := Lib.hid hX; clear hS hX)
    | (go_at_call 11; refine (HMD.out _).mono ?_; rintro e w1 ⟨rr, rfl, hN', hB'⟩; have hN := Lib.hid hN'; have hB := Lib.hid hB'; clear hN' hB'))
  have hB := hB.out
  have HWX := Lib.hid (((Bex.of (p := q) ((Below.refl w.heap.size w).alloc (Nat.le_refl _) (.cells #[.string ⟨#[]⟩, .int .i64 0, .bool false] 25))).trans (Bex.of (p := q) (hB.mono (by simp)))).trans ⟨HX.out.os, HX.out.tape, HX.out.output, HX.out.size, fun x h1 h2 => HX.out.block x (by have := hB.size; simp at this; omega) h2⟩)
  have hr2 : w2.heap[w.heap.size]? = some (.cells #[.string ⟨#[]⟩, .int .i64 0, .bool false] 25 (0, 0)) :=
    (HX.out.block _ (by have := hB.size; simp at this; omega) (by omega)).trans ((hB.block _ (by simp)).trans (heap_alloc_new w _))
  obtain ⟨hqB, v, hb2, hown⟩ := HS.out
  obtain ⟨ao, n1, c1, rfl⟩ := hown.form
  have hcvt : ∀ w', TxtW w' w1.heap.size (.slice ao n1 c1) R → (convert 32 9 (.slice ao n1 c1)).run Try.prog w' = .ok (.string ⟨R.toArray⟩) w' := fun w' h => h.own.back 32 Try.underlying32
  have htx : TxtW w2.drew w1.heap.size (.slice ao n1 c1) R := ⟨hown⟩
  have htx0 : TxtW w2 w1.heap.size (.slice ao n1 c1) R := ⟨hown⟩
  have hrB : w.heap.size < w1.heap.size := by have := hB.size; simp at this; omega
  have hne : w.heap.size ≠ q := by omega
  have hq0 : w2.cell? ⟨q, 0, none⟩ = some (.slice ao n1 c1) := (Lib.cell_of_heap hb2 0).trans rfl
  have hr00 : w2.cell? ⟨w.heap.size, 0, none⟩ = some (.string ⟨#[]⟩) := (Lib.cell_of_heap hr2 0).trans rfl
  have hr01 : w2.cell? ⟨w.heap.size, 1, none⟩ = some (.int .i64 0) := (Lib.cell_of_heap hr2 1).trans rfl
  have hr02 : w2.cell? ⟨w.heap.size, 2, none⟩ = some (.bool false) := (Lib.cell_of_heap hr2 2).trans rfl
  have hf0 := Lib.frozen_of_heap hr2 0
  have hf1 := Lib.frozen_of_heap hr2 1
  have hf2 := Lib.frozen_of_heap hr2 2
  clear hB hb2 hqB hr2 hown
  go_region_held3 (fun w' => w'.cell? ⟨q, 0, none⟩ = some (.slice ao n1 c1) ∧ TxtW w' w1.heap.size (.slice ao n1 c1) R) (first | (refine ⟨?_, ?_⟩ <;> first | assumption | go_keep | (repeat (first | assumption | refine TxtW.drew ?_ | refine TxtW.set ?_ hrB _ _))) | assumption | go_keep | (repeat (first | assumption | refine TxtW.drew ?_ | refine TxtW.set ?_ hrB _ _))) (fail)
  go_wp2_with fail
  have hX9 : Bex w.heap.size q w (((w2.setCell ⟨w.heap.size, 0, none⟩ (.string ⟨R.toArray⟩)).setCell ⟨w.heap.size, 1, none⟩ (.int .i64 (R.length : Nat))).setCell ⟨w.heap.size, 2, none⟩ (.bool false)).drew := by
    refine ⟨HWX.out.os, HWX.out.tape, HWX.out.output, by simpa using HWX.out.size, fun x h1 h2 => ?_⟩
    show ((((w2.setCell ⟨w.heap.size, 0, none⟩ (.string ⟨R.toArray⟩)).setCell ⟨w.heap.size, 1, none⟩ (.int .i64 (R.length : Nat))).setCell ⟨w.heap.size, 2, none⟩ (.bool false))).heap[x]? = _
    rw [Below.heap_setCell _ ⟨w.heap.size, 2, none⟩ _ x (by show x ≠ w.heap.size; omega), Below.heap_setCell _ ⟨w.heap.size, 1, none⟩ _ x (by show x ≠ w.heap.size; omega), Below.heap_setCell _ ⟨w.heap.size, 0, none⟩ _ x (by show x ≠ w.heap.size; omega)]
    exact HWX.out.block x h1 h2
  have e2 : (((w2.setCell ⟨w.heap.size, 0, none⟩ (.string ⟨R.toArray⟩)).setCell ⟨w.heap.size, 1, none⟩ (.int .i64 (R.length : Nat))).setCell ⟨w.heap.size, 2, none⟩ (.bool false)).drew.cell? ⟨w.heap.size, 2, none⟩ = some (.bool false) :=
    World.cell?_setCell_same _ _ _ ((World.cell?_setCell_other _ _ _ _ (by simp)).trans ((World.cell?_setCell_other _ _ _ _ (by simp)).trans hr02))
  have e1 : (((w2.setCell ⟨w.heap.size, 0, none⟩ (.string ⟨R.toArray⟩)).setCell ⟨w.heap.size, 1, none⟩ (.int .i64 (R.length : Nat))).setCell ⟨w.heap.size, 2, none⟩ (.bool false)).drew.cell? ⟨w.heap.size, 1, none⟩ = some (.int .i64 (R.length : Nat)) :=
    (World.cell?_setCell_other _ _ _ _ (by simp)).trans (World.cell?_setCell_same _ _ _ ((World.cell?_setCell_other _ _ _ _ (by simp)).trans hr01))
  have e0 : (((w2.setCell ⟨w.heap.size, 0, none⟩ (.string ⟨R.toArray⟩)).setCell ⟨w.heap.size, 1, none⟩ (.int .i64 (R.length : Nat))).setCell ⟨w.heap.size, 2, none⟩ (.bool false)).drew.cell? ⟨w.heap.size, 0, none⟩ = some (.string ⟨R.toArray⟩) :=
    (World.cell?_setCell_other _ _ _ _ (by simp)).trans ((World.cell?_setCell_other _ _ _ _ (by simp)).trans (World.cell?_setCell_same _ _ _ hr00))
  generalize (((w2.setCell ⟨w.heap.size, 0, none⟩ (.string ⟨R.toArray⟩)).setCell ⟨w.heap.size, 1, none⟩ (.int .i64 (R.length : Nat))).setCell ⟨w.heap.size, 2, none⟩ (.bool false)).drew = w9 at e0 e1 e2 hX9 ⊢
  simp [bodyPost, results, Try.results9, go_sem, e0, e1, e2]
  exact ⟨rfl, hX9⟩
def WrPost (w : World) (l : List ByteArray) (s : ByteArray) (e : Ending) (w' : World) : Prop :=
  e = .returned (.agg #[.string ⟨(rep (prs l) true s.data.toList).toArray⟩, .int .i64 ((rep (prs l) true s.data.toList).length : Nat), .bool false]) ∧ Below w.heap.size w w'
set_option maxHeartbeats 1600000 in
set_option maxRecDepth 100000 in
theorem implWrite (n cap : Nat) (a : Option Addr) (l : List ByteArray) (s : ByteArray) (w : World) (hl : l.length = 2 * n) (hs : StrsAt w w.heap.size a l) (hn : 2 * n ≤ 2147483647) (hk : ∀ s ∈ l, s.size ≤ 2147483647) (hcap : a = none → cap = 0) (hz : s.size ≤ 1073741824)
    (hout : (rep (prs l) true s.data.toList).length ≤ 35184372088832) :
    Calls Try.prog 6 #[.slice a (2 * n) cap, .string s] w (WrPost w l s) := by
  have HW := Lib.hid (fun (o : Obj) => implWritten n cap (w.heap.size + 1) a l s ((w.alloc o).alloc (.cells #[.slice none 0 0, .bool false, .int .i64 0] 34)) (heap_alloc2_new w _ _) hl (hs.later (((Below.refl _ w).alloc (Nat.le_refl _) o).alloc (by simp) _)) hn hk hcap hz hout)
  clear hl hs hk hout
  unfold WrPost
  obtain ⟨R, hR⟩ : ∃ R, R = rep (prs l) true s.data.toList := ⟨_, rfl⟩
  rw [← hR]
  rw [← hR] at HW
  clear hR
  go_enter Try.func6, Try.ntmps6
  go_wp2_with (go_at_call 9; refine (HW.out _).mono ?_; rintro e w2 ⟨rfl, hX⟩; have hr2 : w2.heap[w.heap.size]? = some (.cells #[.string ⟨#[]⟩, .int .i64 0, .bool false] 25 (0, 0)) := (hX.block _ (by simp; omega) (by omega)).trans (heap_alloc2_old w _ _); have hr00 : w2.cell? ⟨w.heap.size, 0, none⟩ = some (.string ⟨#[]⟩) := (Lib.cell_of_heap hr2 0).trans rfl; have hr01 : w2.cell? ⟨w.heap.size, 1, none⟩ = some (.int .i64 0) := (Lib.cell_of_heap hr2 1).trans rfl; have hr02 : w2.cell? ⟨w.heap.size, 2, none⟩ = some (.bool false) := (Lib.cell_of_heap hr2 2).trans rfl; have hf0 := Lib.frozen_of_heap hr2 0; have hf1 := Lib.frozen_of_heap hr2 1; have hf2 := Lib.frozen_of_heap hr2 2; have HX := Lib.hid hX; clear hX hr2)
  have hX9 : Below w.heap.size w (((w2.setCell ⟨w.heap.size, 0, none⟩ (.string ⟨R.toArray⟩)).setCell ⟨w.heap.size, 1, none⟩ (.int .i64 (R.length : Nat))).setCell ⟨w.heap.size, 2, none⟩ (.bool false)) :=
    (((((((Below.refl w.heap.size w).alloc (Nat.le_refl _) (.cells #[.string ⟨#[]⟩, .int .i64 0, .bool false] 25)).alloc (by simp) (.cells #[.slice none 0 0, .bool false, .int .i64 0] 34)).trans (HX.out.below (by simp; omega) (by omega))).setCell (p := ⟨w.heap.size, 0, none⟩) (Nat.le_refl _) _).setCell (p := ⟨w.heap.size, 1, none⟩) (Nat.le_refl _) _).setCell (p := ⟨w.heap.size, 2, none⟩) (Nat.le_refl _) _)
  have e2 : (((w2.setCell ⟨w.heap.size, 0, none⟩ (.string ⟨R.toArray⟩)).setCell ⟨w.heap.size, 1, none⟩ (.int .i64 (R.length : Nat))).setCell ⟨w.heap.size, 2, none⟩ (.bool false)).cell? ⟨w.heap.size, 2, none⟩ = some (.bool false) :=
    World.cell?_setCell_same _ _ _ ((World.cell?_setCell_other _ _ _ _ (by simp)).trans ((World.cell?_setCell_other _ _ _ _ (by simp)).trans hr02))
  have e1 : (((w2.setCell ⟨w.heap.size, 0, none⟩ (.string ⟨R.toArray⟩)).setCell ⟨w.heap.size, 1, none⟩ (.int .i64 (R.length : Nat))).setCell ⟨w.heap.size, 2, none⟩ (.bool false)).cell? ⟨w.heap.size, 1, none⟩ = some (.int .i64 (R.length : Nat)) :=
    (World.cell?_setCell_other _ _ _ _ (by simp)).trans (World.cell?_setCell_same _ _ _ ((World.cell?_setCell_other _ _ _ _ (by simp)).trans hr01))
  have e0 : (((w2.setCell ⟨w.heap.size, 0, none⟩ (.string ⟨R.toArray⟩)).setCell ⟨w.heap.size, 1, none⟩ (.int .i64 (R.length : Nat))).setCell ⟨w.heap.size, 2, none⟩ (.bool false)).cell? ⟨w.heap.size, 0, none⟩ = some (.string ⟨R.toArray⟩) :=
    (World.cell?_setCell_other _ _ _ _ (by simp)).trans ((World.cell?_setCell_other _ _ _ _ (by simp)).trans (World.cell?_setCell_same _ _ _ hr00))
  generalize ((w2.setCell ⟨w.heap.size, 0, none⟩ (.string ⟨R.toArray⟩)).setCell ⟨w.heap.size, 1, none⟩ (.int .i64 (R.length : Nat))).setCell ⟨w.heap.size, 2, none⟩ (.bool false) = w9 at e0 e1 e2 hX9 ⊢
  simp [bodyPost, results, Try.results6, go_sem, e0, e1, e2]
  exact hX9
theorem three_new (w v : World) (x y z : Value) (T : TypeId) (h : Below (w.alloc (.cells #[x, y, z] T)).heap.size (w.alloc (.cells #[x, y, z] T)) v) : v.cell? ⟨w.heap.size, 0, none⟩ = some x ∧ v.cell? ⟨w.heap.size, 1, none⟩ = some y ∧ v.cell? ⟨w.heap.size, 2, none⟩ = some z := by
  have hb : v.heap[w.heap.size]? = some (.cells #[x, y, z] T (0, 0)) := (h.block _ (by simp)).trans (heap_alloc_new w _)
  exact ⟨(Lib.cell_of_heap hb 0).trans rfl, (Lib.cell_of_heap hb 1).trans rfl, (Lib.cell_of_heap hb 2).trans rfl⟩
set_option maxHeartbeats 1600000 in
set_option maxRecDepth 100000 in
theorem law_write (a : Option Addr) (n cap : Nat) (l : List ByteArray) (s : ByteArray) (w : World) (hA : Args w a n cap l) (hz : s.size ≤ 1048576) :
    Calls Try.prog 3 #[.slice a (2 * n) cap, .string s] w fun e w' => e = .returned (.bool true) ∧ Below w.heap.size w w' := by
  have hnot : ∀ (x : Bool) (w : World), (Op.unary .not (.bool x)).run Try.prog w = .ok (.bool (!x)) w := fun _ _ => rfl
  have hfit := Lib.hid (hA.hl ▸ fits_yes a cap w.heap.size l w hA.hs (by have := hA.hn; have := hA.hl; omega) hA.big)
  have HA := Lib.hid hA
  have hn := hA.hn
  have HO := Lib.hid (Nat.le_trans (rep_small1 hA.hk s hz) (by omega : _ ≤ 35184372088832))
  have HWR := Lib.hid (implWrite n cap a l s w hA.hl hA.hs (by omega) hA.big hA.hcap (by omega) HO.out)
  unfold WrPost at HWR
  have HIS := Lib.hid (fun (W : World) (hB : Below w.heap.size w W) => rpIs_yes n cap a l s ⟨(rep (prs l) true s.data.toList).toArray⟩ W hA.hl (hA.later hB).hs (by omega) hA.big hA.hcap (by omega) HO.out rfl)
  have hsz : (⟨(rep (prs l) true s.data.toList).toArray⟩ : ByteArray).size = (rep (prs l) true s.data.toList).length := by
    show (rep (prs l) true s.data.toList).toArray.size = _
    simp
  clear hA
  generalize (⟨(rep (prs l) true s.data.toList).toArray⟩ : ByteArray) = X at *
  generalize (rep (prs l) true s.data.toList).length = L at *
  subst hsz
  go_enter Try.func3, Try.ntmps3
  go_wp2_with (first
    | (go_at_call 4; refine hfit.out.mono ?_; rintro e w' ⟨rfl, rfl⟩)
    | (go_at_call 5; refine (even_yes a n cap _ (by omega)).mono ?_; rintro e w' ⟨rfl, rfl⟩)
    | (go_at_call 6; refine HWR.out.mono ?_; rintro e w1 ⟨rfl, hB1⟩)
    | (go_at_call 7; refine (rpReplaces _).mono ?_; rintro e w2 ⟨rfl, hB2⟩; have hB12 := (hB1.alloc hB1.size (.cells #[.string X, .int .i64 (X.size : Nat), .bool false] 25)).trans (hB2.mono (by have := hB1.size; simp; omega)); have HB2 := Lib.hid hB2; clear hB2; obtain ⟨g0, g1, g2⟩ := three_new w1 w2 (.string X) (.int .i64 (X.size : Nat)) (.bool false) 25 HB2.out)
    | (go_at_call 8; refine (HIS.out _ hB12).mono ?_; rintro e w3 ⟨rfl, hB3⟩; have hB13 := hB12.trans (hB3.mono hB12.size); obtain ⟨k0, k1, k2⟩ := three_new w1 w3 (.string X) (.int .i64 (X.size : Nat)) (.bool false) 25 (HB2.out.trans (hB3.mono HB2.out.size)); clear hB3))
  all_goals go_ret
  all_goals exact ⟨rfl, hB13⟩
set_option maxHeartbeats 800000 in
theorem law_write_odd (a : Option Addr) (n cap : Nat) (l : List ByteArray) (s : ByteArray) (w : World) (hl : l.length = 2 * n + 1) (hs : StrsAt w w.heap.size a l) (hn : 2 * n + 1 ≤ 1048576) (hk : ∀ s ∈ l, s.size ≤ 1048576) (hz : s.size ≤ 1048576) :
    Calls Try.prog 3 #[.slice a (2 * n + 1) cap, .string s] w fun e w' => e = .returned (.bool true) ∧ Below w.heap.size w w' := by
  have hnot : ∀ (x : Bool) (w : World), (Op.unary .not (.bool x)).run Try.prog w = .ok (.bool (!x)) w := fun _ _ => rfl
  have hfit := Lib.hid (hl ▸ fits_yes a cap w.heap.size l w hs (by omega) (fun s h => by have := hk s h; omega))
  clear hl hs hk
  go_enter Try.func3, Try.ntmps3
  go_wp2_with (first
    | (go_at_call 4; refine hfit.out.mono ?_; rintro e w' ⟨rfl, rfl⟩)
    | (go_at_call 5; refine (even_no a n cap _ (by omega)).mono ?_; rintro e w' ⟨rfl, rfl⟩))
  go_ret
  exact ⟨rfl, Below.refl _ _⟩
theorem walk_FnWrite (a0 : Option Addr) (len0 cap0 : Nat) (z0 : List ByteArray) (a1 : ByteArray) (w : World) (w0 : IsStrs w a0 len0 cap0 z0) (b0 : Short len0 z0) (w1 : a1.size ≤ maxLen) (b1 : a1.size ≤ 1048576) :
    Calls Try.prog 3 #[.slice a0 len0 cap0, .string a1] w fun e w' => e = .returned (.bool true) ∧ Below w.heap.size w w' := by
  have hc := short_cap w0
  obtain ⟨l, rfl, hs, hn, hk, _⟩ := strs_of_short w0 b0
  obtain ⟨n, hn2 | hn2⟩ := even_odd l.length
  · rw [hn2]
    exact law_write a0 n cap0 l a1 w ⟨hn2, hs, by omega, hk, hc⟩ b1
  · rw [hn2]
    exact law_write_odd a0 n cap0 l a1 w hn2 hs (by omega) hk b1
end Go.Proofs.Ytlhlehmmaoadgaa
