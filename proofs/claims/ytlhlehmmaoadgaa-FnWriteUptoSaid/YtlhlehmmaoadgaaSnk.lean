/- impl.sink (without a bound): Write; stringWriter.WriteString and getStringWriter at it. -/
import Derived.Test.YtlhlehmmaoadgaaOwnB
import Derived.Test.YtlhlehmmaoadgaaKit
import Derived.Test.YtlhlehmmaoadgaaBytes
import Derived.Test.YtlhlehmmaoadgaaAsw
import Derived.Test.YtlhlehmmaoadgaaAgree
import Derived.WalkLawsBesides
import Derived.BigCall
import Derived.BigGuard
import Derived.BigQuiet
import Derived.Deep.QuietTactic
import Derived.Deep.RegionHeld3
import Derived.Lib.Hide
import Derived.Lib.Walk
import Derived.Outline
import Derived.Stop.Asserts
namespace Go.Proofs.Ytlhlehmmaoadgaa
open Go.RowKit Go.Lib
set_option linter.unusedVariables false

/-- 'append(out, p...)', p a slice of bytes -/
theorem appB_cells {ops : Array Oper} {rest : List Oper} {o : Oper} {a : Act} {Q : Exit → Act → World → Prop} (hgd : o.guard = none) (sl x : Operand)
    (ho : o.op = .call { callee := .builtin .append, args := #[sl, x], argTypes := #[32, 32] })
    (wr : World) (base : Nat) (v : Value) (acc m : List UInt8) (y : Addr) (n cap : Nat) (hs : a.eval sl = v) (hx : a.eval x = .slice (some y) n cap) (hm : m.length = n)
    (hown : OwnB wr base v acc) (hn : acc.length + n ≤ 140737488355328) (hb : base ≤ wr.heap.size) (hc : ∀ j u, (byteCells m)[j]? = some u → wr.cell? (y.add j) = some u)
    (h : ∀ v' w', OwnB w' base v' (acc ++ m) → wr.grownBy w' v.ownBlock → wpList Try.prog ops Q rest (a.put o.dst v') w') :
    wpList Try.prog ops Q (o :: rest) a wr := by
  obtain ⟨i0, hi, hz0, hz1, hz2⟩ := info_parts infoByte
  refine wpList_append_own _ hgd sl x 32 ho base 5 i0 (.int .u8 0) 1 1 Try.underlying32 hi hz0 hz1 hz2 rfl (by decide) v acc.length (byteCells acc) hs hown y n cap (byteCells m) hx (by simp [byteCells, hm]) hc ?_ (by unfold maxLen; omega) (by omega) hb (fun v' w' h1 h2 _ => h v' w' ?_ h2)
  · intro u hu
    simp [byteCells] at hu
    obtain ⟨c, _, rfl⟩ := hu
    rfl
  · unfold OwnB
    have e2 : byteCells (acc ++ m) = byteCells acc ++ byteCells m := by simp [byteCells]
    rw [e2, List.length_append, hm]
    exact h1
/-- the frame: below B all blocks but p stay -/
structure Bex (B p : Nat) (w w' : World) : Prop where
  os : w'.os = w.os
  tape : w'.tape = w.tape
  output : w'.output = w.output
  size : w.heap.size ≤ w'.heap.size
  block : ∀ x, x < B → x ≠ p → w'.heap[x]? = w.heap[x]?
theorem Bex.refl (B p : Nat) (w : World) : Bex B p w w := ⟨rfl, rfl, rfl, Nat.le_refl _, fun _ _ _ => rfl⟩
theorem Bex.trans {B p : Nat} {a b c : World} (h : Bex B p a b) (h' : Bex B p b c) : Bex B p a c :=
  ⟨h'.os.trans h.os, h'.tape.trans h.tape, h'.output.trans h.output, Nat.le_trans h.size h'.size, fun x h1 h2 => (h'.block x h1 h2).trans (h.block x h1 h2)⟩
theorem Bex.of {B p : Nat} {a b : World} (h : Below B a b) : Bex B p a b := ⟨h.os, h.tape, h.output, h.size, fun x h1 _ => h.block x h1⟩
theorem Bex.setCell {B p o : Nat} {w w' : World} (h : Bex B p w w') (v : Value) : Bex B p w (w'.setCell ⟨p, o, none⟩ v) :=
  ⟨h.os, h.tape, h.output, by simpa using h.size, fun x h1 h2 => (Below.heap_setCell _ ⟨p, o, none⟩ _ x h2).trans (h.block x h1 h2)⟩
theorem Bex.agree {B p lo : Nat} {w w' : World} (h : Bex B p w w') (hp : p < lo) : AgreeOn lo B w w' := fun x h1 h2 => h.block x h2 (by omega)
theorem Bex.below {B p B' : Nat} {w w' : World} (h : Bex B p w w') (h1 : B' ≤ B) (h2 : B' ≤ p) : Below B' w w' := ⟨h.os, h.tape, h.output, h.size, fun x hx => h.block x (by omega) (by omega)⟩
theorem Bex.cell {B p x o : Nat} {w w' : World} (h : Bex B p w w') (h1 : x < B) (h2 : x ≠ p) : w'.cell? ⟨x, o, none⟩ = w.cell? ⟨x, o, none⟩ := World.cell?_of_block (a := ⟨x, o, none⟩) (h.block x h1 h2)
theorem bex_drewN {B p : Nat} {a b : World} (h : Bex B p a b) (n : Nat) : Bex B p a (b.drewN n) := ⟨h.os, h.tape, h.output, h.size, h.block⟩
/-- a sink without a bound, its bytes -/
def Snk (w : World) (B p : Nat) (acc : List UInt8) : Prop :=
  p < B ∧ ∃ v, w.heap[p]? = some (.cells #[v, .bool false, .int .i64 0] 34 (0, 0)) ∧ OwnB w B v acc
theorem Snk.lt {w : World} {B p : Nat} {acc : List UInt8} (h : Snk w B p acc) : p < w.heap.size := by
  obtain ⟨_, v, hb, _⟩ := h
  exact (Array.getElem?_eq_some_iff.1 hb).1
theorem Snk.ne {w : World} {B p : Nat} {v : Value} {acc : List UInt8} (h : OwnB w B v acc) (hp : p < B) : v.ownBlock ≠ some p := fun e => by
  have := (World.ownsRow.lt h p e).1
  omega
theorem Snk.drewN {w : World} {B p : Nat} {acc : List UInt8} (h : Snk w B p acc) (n : Nat) : Snk (w.drewN n) B p acc := h
theorem Snk.drew {w : World} {B p : Nat} {acc : List UInt8} (h : Snk w B p acc) : Snk w.drew B p acc := h
theorem Snk.start {w : World} {B p : Nat} (hp : p < B) (hb : w.heap[p]? = some (.cells #[.slice none 0 0, .bool false, .int .i64 0] 34 (0, 0))) : Snk w B p [] :=
  ⟨hp, .slice none 0 0, hb, OwnB.nil _ _⟩
theorem Snk.alloc {w : World} {B p : Nat} {acc : List UInt8} (h : Snk w B p acc) (o : Obj) : Snk (w.alloc o) B p acc := by
  have hl := h.lt
  obtain ⟨hB, v, hb, hown⟩ := h
  exact ⟨hB, v, by rw [Below.heap_alloc _ _ _ hl]; exact hb, World.ownsRow.alloc hown o⟩
theorem Snk.put {w : World} {B p : Nat} {v v' : Value} {acc : List UInt8} (hB : p < B) (hb : w.heap[p]? = some (.cells #[v, .bool false, .int .i64 0] 34 (0, 0))) (hown : OwnB w B v' acc) : Snk (w.setCell ⟨p, 0, none⟩ v') B p acc := by
  refine ⟨hB, v', by simp [World.setCell, Array.getElem?_modify, hb], ?_⟩
  exact World.ownsRow.kept hown (row := some p) ⟨rfl, rfl, rfl, by simp [World.setCell], fun k _ hk => Below.heap_setCell _ _ _ _ (fun e => hk (by simp [e]))⟩ (Or.inr (Snk.ne hown hB))

set_option maxHeartbeats 1600000 in
theorem sinkWrite (B p : Nat) (acc m : List UInt8) (y : Addr) (n cap : Nat) (w : World) (hm : m.length = n) (hA : Snk w B p acc) (hc : ∀ j u, (byteCells m)[j]? = some u → w.cell? (y.add j) = some u) (hn : acc.length + n ≤ 140737488355328) (hBw : B ≤ w.heap.size) :
    Calls Try.prog 39 #[.pointer (some ⟨p, 0, none⟩), .slice (some y) n cap] w fun e w' => e = .returned (.tuple #[.int .i64 n, .nilIface]) ∧ Snk w' B p (acc ++ m) ∧ Bex B p w w' := by
  obtain ⟨hB, v, hb, hown⟩ := hA
  have hne := Snk.ne hown hB
  have hc0 := Lib.cell_of_heap hb 0
  have hc1 := Lib.cell_of_heap hb 1
  have hlt : p < w.heap.size := (Array.getElem?_eq_some_iff.1 hb).1
  have HOWN := Lib.hid hown
  have HBK := Lib.hid hb
  have HNE := Lib.hid hne
  have HC := Lib.hid hc
  clear hown hb hne hc
  simp only [List.getElem?_toArray, List.getElem?_cons_zero, List.getElem?_cons_succ] at hc0 hc1
  go_enter Try.func39, Try.ntmps39
  go_wp2_with fail
  go_quiet (fail)
  go_wp2_with (at_builtin; refine appB_cells (by rfl) _ _ (by rfl) _ B v acc m y n cap (by rfl) (by rfl) hm (show OwnB (w.drewN _) B v acc from HOWN.out) hn hBw (show ∀ j u, (byteCells m)[j]? = some u → (w.drewN _).cell? (y.add j) = some u from HC.out) ?_; intro v1 w1 hown1 hgr; obtain ⟨ao1, n1, c1, rfl⟩ := hown1.form; have hb1 : w1.heap[p]? = some (.cells #[v, .bool false, .int .i64 0] 34 (0, 0)) := (hgr.block p hlt (fun e => HNE.out e.symm)).trans HBK.out; have hd1 := Lib.cell_of_heap hb1 0; have hf1 := Lib.frozen_of_heap hb1 0; have HP := Lib.hid (Snk.put hB hb1 hown1); have HB1 := Lib.hid ((Bex.of (p := p) (below_appB (below_drewN (Below.refl B w) _) HOWN.out (Nat.le_refl _) hBw hgr)).setCell (o := 0) (.slice ao1 n1 c1)); clear hown1 hgr hb1; simp only [List.getElem?_toArray, List.getElem?_cons_zero] at hd1)
  go_ret2
  exact ⟨rfl, HP.out, HB1.out⟩
theorem Row.cells' {w : World} {b o : Nat} {s : ByteArray} (h : Row w b o s) : ∀ j u, (byteCells s.data.toList)[j]? = some u → w.cell? ((⟨b, o, none⟩ : Addr).add j) = some u := fun j u hu => by
  have hz : s.data.toList.length = s.size := by simp
  by_cases hj : j < s.size
  · rw [show (⟨b, o, none⟩ : Addr).add j = ⟨b, o + j, none⟩ by unfold Addr.add; split <;> simp_all, h j hj]
    simp [byteCells] at hu
    obtain ⟨x, hx, rfl⟩ := hu
    have e : s[j] = x := by
      have := Array.getElem?_eq_some_iff.1 hx
      exact this.2
    rw [e]
  · simp [byteCells] at hu
    obtain ⟨x, hx, rfl⟩ := hu
    exact absurd (Array.getElem?_eq_some_iff.1 hx).1 hj
theorem aheadSink (a : Addr) (w : World) : (nilAhead 220 31 (.pointer (some a)) "Write").run Try.prog w = .ok (some false) w := by kernel_rfl
theorem methSink (a : Addr) (w : World) : (method 220 31 (.pointer (some a)) "Write").run Try.prog w = .ok (39, .pointer (some a)) w := by kernel_rfl
theorem aheadSw (x : Value) (w : World) : (nilAhead 220 109 (.agg #[x]) "WriteString").run Try.prog w = .ok (some false) w := by kernel_rfl
theorem methSw (x : Value) (w : World) : (method 220 109 (.agg #[x]) "WriteString").run Try.prog w = .ok (62, .agg #[x]) w := by kernel_rfl
theorem assertSnk (a : Addr) (w : World) : (Instr.typeAssert (.iface 31 (.pointer (some a))) 47 105 true).run Try.prog w = .ok (.tuple #[.nilIface, .bool false]) w := run_typeAssert_lacksB Try.underlying105 (by kernel_rfl) (by kernel_rfl) _ _ w
set_option maxHeartbeats 800000 in
theorem getSwSnk (p : Nat) (w : World) :
    Calls Try.prog 46 #[.iface 31 (.pointer (some ⟨p, 0, none⟩))] w fun e w' => e = .returned (.iface 109 (.agg #[.iface 31 (.pointer (some ⟨p, 0, none⟩))])) ∧ w = w' := by
  have ha := assertSnk
  have hnot : ∀ (x : Bool) (w : World), (Op.unary .not (.bool x)).run Try.prog w = .ok (.bool (!x)) w := fun _ _ => rfl
  go_enter Try.func46, Try.ntmps46
  go_wp2
  go_ret
  exact ⟨rfl, rfl⟩
set_option maxHeartbeats 1600000 in
theorem swWrite (B p : Nat) (acc : List UInt8) (s : ByteArray) (w : World) (hA : Snk w B p acc) (hn : acc.length + s.size ≤ 140737488355328) (hBw : B ≤ w.heap.size) :
    Calls Try.prog 62 #[.agg #[.iface 31 (.pointer (some ⟨p, 0, none⟩))], .string s] w fun e w' => e = .returned (.tuple #[.int .i64 s.size, .nilIface]) ∧ Snk w' B p (acc ++ s.data.toList) ∧ Bex B p w w' := by
  have hah := aheadSink
  have hmt := methSink
  have hcv := hconv
  have HA := Lib.hid hA
  clear hA
  go_enter Try.func62, Try.ntmps62
  go_wp2_with (go_at_call 39; go_loud (refine Calls.mono (sinkWrite B p acc s.data.toList _ s.size _ _ (by simp) (((HA.out.alloc _).alloc _).drew) (Row.cells' ((Row.new1 _ _ _ _ _ _ (by simp)).drew)) hn (by simp; omega)) ?_; rintro e w1 ⟨rfl, hS, hB1⟩; have HS := Lib.hid hS; have HB := Lib.hid ((Bex.of (p := p) (((Below.refl B w).alloc hBw _).alloc (by simp; omega) _).drew).trans hB1); clear hS hB1))
  go_ret2
  exact ⟨rfl, HS.out, HB.out⟩
end Go.Proofs.Ytlhlehmmaoadgaa
