/- A []byte of the call's own: its bytes, what is appended to it, and the text made of it. -/
import Derived.Test.YtlhlehmmaoadgaaRows
import Derived.WalkKit
import Derived.WalkSpells
import Derived.OwnWalk
import Derived.Below
import Derived.KernelRfl
import Derived.Lib.AppendStr
import Derived.Lib.UnsafeStr
import Derived.Lib.Strings
import Derived.Laws.IdiomStrings
import Derived.Laws.BytesArg
namespace Go.Proofs.Ytlhlehmmaoadgaa
open Go.RowKit Go.Lib
set_option linter.unusedVariables false

theorem infoByte : (Try.prog.info? 5).map (fun i => (i.zero, i.size, i.bytes)) = some (some (.int .u8 0), 1, 1) := by kernel_rfl
/-- a slice of the call's own that holds these bytes -/
def OwnB (w : World) (base : Nat) (v : Value) (acc : List UInt8) : Prop := w.ownsRow base 5 1 v acc.length (byteCells acc)
theorem OwnB.nil (w : World) (base : Nat) : OwnB w base (.slice none 0 0) [] := World.ownsRow_nil _ _ _ _
theorem OwnB.made (w : World) (base cap : Nat) (hb : base ≤ w.heap.size) (hm : cap ≤ maxLen) : OwnB (w.alloc (.cells (madeCells #[.int .u8 0] cap) 5)) base (.slice (some ⟨w.heap.size, 0, none⟩) 0 cap) [] :=
  World.ownsRow_made w _ cap hb hm (by simp [madeCells])
/-- 'append(out, s...)', s a text -/
theorem appB_str {ops : Array Oper} {rest : List Oper} {o : Oper} {a : Act} {Q : Exit → Act → World → Prop} (hgd : o.guard = none) (sl x : Operand) (t : TypeId) (ht : Try.prog.underlying t = some (.slice 5))
    (ho : o.op = .call { callee := .builtin .append, args := #[sl, x], argTypes := #[t, 9] })
    (wr : World) (base : Nat) (v : Value) (acc : List UInt8) (s : ByteArray) (hs : a.eval sl = v) (hx : a.eval x = .string s)
    (hown : OwnB wr base v acc) (hn : acc.length + s.size ≤ 140737488355328) (hb : base ≤ wr.heap.size)
    (h : ∀ v' w', OwnB w' base v' (acc ++ s.data.toList) → wr.grownBy w' v.ownBlock → wpList Try.prog ops Q rest (a.put o.dst v') w') :
    wpList Try.prog ops Q (o :: rest) a wr := by
  obtain ⟨i0, hi, hz0, hz1, hz2⟩ := info_parts infoByte
  refine Lib.wpList_append_own_string _ hgd sl x t 9 ho base 5 i0 ht Try.underlying9 hi hz0 hz1 hz2 v acc.length (byteCells acc) hs hown s hx (by unfold maxLen; omega) hn hb (fun v' w' h1 h2 _ => h v' w' ?_ h2)
  unfold OwnB
  have e : (acc ++ s.data.toList).length = acc.length + s.size := by rw [List.length_append, Array.length_toList]; rfl
  rw [e]
  have e2 : byteCells (acc ++ s.data.toList) = byteCells acc ++ strCells s := by rw [strCells_eq]; simp [byteCells]
  rw [e2]
  exact h1
/-- 'append(out, c)', one byte -/
theorem appB_one {ops : Array Oper} {rest : List Oper} {o : Oper} {a : Act} {Q : Exit → Act → World → Prop} (hgd : o.guard = none) (sl x : Operand) (t : TypeId) (ht : Try.prog.underlying t = some (.slice 5))
    (ho : o.op = .call { callee := .builtin .append, args := #[sl, x], argTypes := #[t, t] })
    (wr : World) (base : Nat) (v : Value) (acc : List UInt8) (c : UInt8) (T : TypeId) (hs : a.eval sl = v) (hx : a.eval x = .slice (some ⟨wr.heap.size, 0, none⟩) 1 1)
    (hown : OwnB wr base v acc) (hn : acc.length + 1 ≤ 140737488355328) (hb : base ≤ wr.heap.size)
    (h : ∀ v' w', OwnB w' base v' (acc ++ [c]) → (wr.alloc (.cells #[.int .u8 (c.toNat : Int)] T)).grownBy w' v.ownBlock → wpList Try.prog ops Q rest (a.put o.dst v') w') :
    wpList Try.prog ops Q (o :: rest) a (wr.alloc (.cells #[.int .u8 (c.toNat : Int)] T)) := by
  obtain ⟨i0, hi, hz0, hz1, hz2⟩ := info_parts infoByte
  refine wpList_append_own _ hgd sl x t ho base 5 i0 (.int .u8 0) 1 1 ht hi hz0 hz1 hz2 rfl (by decide) v acc.length (byteCells acc) hs (World.ownsRow.alloc hown _) ⟨wr.heap.size, 0, none⟩ 1 1 [.int .u8 (c.toNat : Int)] hx rfl ?_ ?_ (by unfold maxLen; omega) (by omega) (Nat.le_trans hb (by simp)) (fun v' w' h1 h2 _ => h v' w' ?_ h2)
  · intro j u hu
    cases j with
    | zero =>
      simp at hu
      subst hu
      rw [show (⟨wr.heap.size, 0, none⟩ : Addr).add 0 = ⟨wr.heap.size, 0, none⟩ from rfl, World.cell?_alloc_at _ _ _ _ rfl]
      rfl
    | succ j => simp at hu
  · intro u hu
    simp at hu
    subst hu
    rfl
  · unfold OwnB
    have e2 : byteCells (acc ++ [c]) = byteCells acc ++ [.int .u8 (c.toNat : Int)] := by simp [byteCells]
    rw [e2, List.length_append]
    exact h1
/-- the frame behind an append -/
theorem below_appB {B : Nat} {w wr w1 : World} {base : Nat} {v : Value} {acc : List UInt8} (hB : Below B w wr) (hown : OwnB wr base v acc) (hb : B ≤ base) (hBw : B ≤ wr.heap.size) (hg : wr.grownBy w1 v.ownBlock) : Below B w w1 :=
  hB.grown hg hBw (fun k hk => Nat.le_trans hb (World.ownsRow.lt hown k hk).1)
theorem below_appB1 {B : Nat} {w wr w1 : World} {base : Nat} {v : Value} {acc : List UInt8} (hB : Below B w wr) (hown : OwnB wr base v acc) (hb : B ≤ base) (hBw : B ≤ wr.heap.size) {o : Obj} (hg : (wr.alloc o).grownBy w1 v.ownBlock) : Below B w w1 :=
  (hB.alloc hBw o).grown hg (Nat.le_trans hBw (by simp)) (fun k hk => Nat.le_trans hb (World.ownsRow.lt hown k hk).1)
theorem OwnB.cells {w : World} {base : Nat} {v : Value} {acc : List UInt8} (h : OwnB w base v acc) : v = .slice none 0 0 ∧ acc = [] ∨ ∃ g cap, v = .slice (some ⟨g, 0, none⟩) acc.length cap ∧ base ≤ g ∧ g < w.heap.size ∧ ∀ j (hj : j < acc.length), w.cell? ⟨g, j, none⟩ = some (.int .u8 (acc[j].toNat : Int)) := by
  rcases h.2 with ⟨h1, h2⟩ | ⟨g, cap, cur, rfl, hb, hg, _⟩
  · exact .inl ⟨h1, List.eq_nil_of_length_eq_zero h2⟩
  · refine .inr ⟨g, cap, rfl, hb, (Array.getElem?_eq_some_iff.1 hg).1, fun j hj => ?_⟩
    have := World.ownsRow.cells h (g := g) rfl j (.int .u8 (acc[j].toNat : Int)) (by simp [byteCells, hj])
    rw [show (⟨g, 0, none⟩ : Addr).add j = ⟨g, j, none⟩ by unfold Addr.add; split <;> simp_all] at this
    exact this
theorem OwnB.form {w : World} {base : Nat} {v : Value} {acc : List UInt8} (h : OwnB w base v acc) : ∃ a n c, v = .slice a n c := by
  rcases h.2 with ⟨h1, _⟩ | ⟨g, cap, cur, h1, _⟩
  · exact ⟨_, _, _, h1⟩
  · exact ⟨_, _, _, h1⟩
/-- 'string(out)' -/
theorem OwnB.back {w : World} {base : Nat} {v : Value} {acc : List UInt8} (h : OwnB w base v acc) (t : TypeId) (ht : Try.prog.underlying t = some (.slice 5)) :
    (convert t 9 v).run Try.prog w = .ok (.string ⟨acc.toArray⟩) w := by
  rcases h.cells with ⟨rfl, rfl⟩ | ⟨g, cap, rfl, _, _, hc⟩
  · exact run_convert_bytes_nil (P := Try.prog) w t 5 ht Try.underlying5 0 0 9 Try.underlying9
  · exact run_convert_bytes_back (P := Try.prog) w t 9 5 ⟨g, 0, none⟩ cap acc ht Try.underlying5 Try.underlying9 (fun j hj => by
      rw [show (⟨g, 0, none⟩ : Addr).add j = ⟨g, j, none⟩ by unfold Addr.add; split <;> simp_all]
      exact hc j hj)
end Go.Proofs.Ytlhlehmmaoadgaa
