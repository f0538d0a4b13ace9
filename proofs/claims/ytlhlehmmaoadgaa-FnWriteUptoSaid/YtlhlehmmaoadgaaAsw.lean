/- appendSliceWriter.WriteString, getStringWriter at it. -/
import Derived.Test.YtlhlehmmaoadgaaOwnB
import Derived.Test.YtlhlehmmaoadgaaKit
import Derived.WalkLawsBesides
import Derived.BigCall
import Derived.BigGuard
import Derived.Lib.Hide
import Derived.Lib.Walk
import Derived.Lib.Builder
import Derived.Outline
namespace Go.Proofs.Ytlhlehmmaoadgaa
open Go.RowKit Go.Lib
set_option linter.unusedVariables false

/-- an appendSliceWriter in a block of its own, its bytes -/
def Asw (w : World) (B p : Nat) (acc : List UInt8) : Prop :=
  B ≤ p ∧ ∃ v, w.heap[p]? = some (.cells #[v] 113 (0, 0)) ∧ OwnB w B v acc ∧ v.ownBlock ≠ some p
theorem Asw.lt {w : World} {B p : Nat} {acc : List UInt8} (h : Asw w B p acc) : p < w.heap.size := by
  obtain ⟨_, v, hb, _⟩ := h
  exact (Array.getElem?_eq_some_iff.1 hb).1
theorem Asw.drewN {w : World} {B p : Nat} {acc : List UInt8} (h : Asw w B p acc) (n : Nat) : Asw (w.drewN n) B p acc := h
theorem Asw.drew {w : World} {B p : Nat} {acc : List UInt8} (h : Asw w B p acc) : Asw w.drew B p acc := h
theorem Asw.new (w : World) (n : Nat) (hn : n ≤ maxLen) (B : Nat) (hB : B ≤ w.heap.size) : Asw ((w.alloc (.cells (madeCells #[.int .u8 0] n) 5)).alloc (.cells #[.slice (some ⟨w.heap.size, 0, none⟩) 0 n] 113)) B (w.heap.size + 1) [] := by
  refine ⟨by omega, .slice (some ⟨w.heap.size, 0, none⟩) 0 n, ?_, World.ownsRow.alloc (OwnB.made w B n hB hn) _, by simp [Value.ownBlock]⟩
  have := heap_alloc_new (w.alloc (.cells (madeCells #[.int .u8 0] n) 5)) (.cells #[.slice (some ⟨w.heap.size, 0, none⟩) 0 n] 113)
  simpa using this
theorem Asw.put {w : World} {B p : Nat} {v v' : Value} {acc : List UInt8} (hB : B ≤ p) (hb : w.heap[p]? = some (.cells #[v] 113 (0, 0))) (hown : OwnB w B v' acc) : Asw (w.setCell ⟨p, 0, none⟩ v') B p acc := by
  have hne := Lib.ownBlock_ne hown hb (by decide)
  refine ⟨hB, v', by simp [World.setCell, Array.getElem?_modify, hb], ?_, hne⟩
  exact World.ownsRow.kept hown (row := some p) ⟨rfl, rfl, rfl, by simp [World.setCell], fun k _ hk => Below.heap_setCell _ _ _ _ (fun e => hk (by simp [e]))⟩ (Or.inr hne)

set_option maxHeartbeats 800000 in
theorem aswWrite (B p : Nat) (acc : List UInt8) (s : ByteArray) (w : World) (hA : Asw w B p acc) (hn : acc.length + s.size ≤ 140737488355328) (hBw : B ≤ w.heap.size) :
    Calls Try.prog 64 #[.pointer (some ⟨p, 0, none⟩), .string s] w fun e w' => e = .returned (.tuple #[.int .i64 s.size, .nilIface]) ∧ Asw w' B p (acc ++ s.data.toList) ∧ Below B w w' := by
  obtain ⟨hB, v, hb, hown, hne⟩ := hA
  have hc := Lib.cell_of_heap hb 0
  have hlt : p < w.heap.size := (Array.getElem?_eq_some_iff.1 hb).1
  have HOWN := Lib.hid hown
  have HBK := Lib.hid hb
  have HNE := Lib.hid hne
  clear hown hb hne
  simp only [List.getElem?_toArray, List.getElem?_cons_zero] at hc
  go_enter Try.func64, Try.ntmps64
  go_wp2_with (at_builtin; refine appB_str (by rfl) _ _ 113 Try.underlying113 (by rfl) _ B v acc s (by rfl) (by rfl) HOWN.out hn hBw ?_; intro v1 w1 hown1 hgr; obtain ⟨ao1, n1, c1, rfl⟩ := hown1.form; have hb1 : w1.heap[p]? = some (.cells #[v] 113 (0, 0)) := (hgr.block p hlt (fun e => HNE.out e.symm)).trans HBK.out; have hc1 := Lib.cell_of_heap hb1 0; have hf1 := Lib.frozen_of_heap hb1 0; have HP := Lib.hid (Asw.put hB hb1 hown1); have HB1 := Lib.hid ((below_appB (Below.refl B w) HOWN.out (Nat.le_refl _) hBw hgr).setCell (p := ⟨p, 0, none⟩) hB (.slice ao1 n1 c1)); clear hown1 hgr hb1; simp only [List.getElem?_toArray, List.getElem?_cons_zero] at hc1)
  go_ret2
  exact ⟨rfl, HP.out, HB1.out⟩

theorem assertAsw (a : Addr) (w : World) : (Instr.typeAssert (.iface 114 (.pointer (some a))) 47 105 true).run Try.prog w = .ok (.tuple #[.iface 114 (.pointer (some a)), .bool true]) w := by kernel_rfl
set_option maxHeartbeats 800000 in
theorem getSwAsw (p : Nat) (w : World) :
    Calls Try.prog 46 #[.iface 114 (.pointer (some ⟨p, 0, none⟩))] w fun e w' => e = .returned (.iface 114 (.pointer (some ⟨p, 0, none⟩))) ∧ w = w' := by
  have ha := assertAsw
  have hnot : ∀ (x : Bool) (w : World), (Op.unary .not (.bool x)).run Try.prog w = .ok (.bool (!x)) w := fun _ _ => rfl
  go_enter Try.func46, Try.ntmps46
  go_wp2
  go_ret
  exact ⟨rfl, rfl⟩
end Go.Proofs.Ytlhlehmmaoadgaa
