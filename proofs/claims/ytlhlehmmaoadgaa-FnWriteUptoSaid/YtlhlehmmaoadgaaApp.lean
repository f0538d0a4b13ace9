/- Laws for the walk: one number, one text appended to a row of the call's own. -/
import Derived.Test.YtlhlehmmaoadgaaRows
import Derived.WalkKit
import Derived.OwnWalk
import Derived.Below
import Derived.KernelRfl
import Derived.Deep.OwnRows
namespace Go.Proofs.Ytlhlehmmaoadgaa
open Go.RowKit
set_option linter.unusedVariables false

theorem infoInt : (Try.prog.info? 3).map (fun i => (i.zero, i.size, i.bytes)) = some (some (.int .i64 0), 1, 8) := by kernel_rfl
/-- 'out = append(out, z)', numbers -/
theorem app_int {ops : Array Oper} {rest : List Oper} {o : Oper} {a : Act} {Q : Exit → Act → World → Prop} (hgd : o.guard = none) (s x : Operand)
    (ho : o.op = .call { callee := .builtin .append, args := #[s, x], argTypes := #[75, 75] })
    (wr : World) (base n : Nat) (v : Value) (xs : List Value) (z : Int) (hs : a.eval s = v) (hx : a.eval x = .slice (some ⟨wr.heap.size, 0, none⟩) 1 1)
    (hown : wr.ownsRow base 3 1 v n xs) (hn : n ≤ 1099511627776) (hb : base ≤ wr.heap.size)
    (h : ∀ v' w', w'.ownsRow base 3 1 v' (n + 1) (xs ++ [.int .i64 z]) → (wr.alloc (.cells #[.int .i64 z] 3)).grownBy w' v.ownBlock → wpList Try.prog ops Q rest (a.put o.dst v') w') :
    wpList Try.prog ops Q (o :: rest) a (wr.alloc (.cells #[.int .i64 z] 3)) := by
  obtain ⟨i0, hi, hz0, hz1, hz2⟩ := info_parts infoInt
  refine wpList_append_own _ hgd s x 75 ho base 3 i0 (.int .i64 0) 1 8 Try.underlying75 hi hz0 hz1 hz2 rfl (by decide) v n xs hs (hown.alloc _) ⟨wr.heap.size, 0, none⟩ 1 1 [.int .i64 z] hx rfl ?_ ?_ (by unfold maxLen; omega) (by omega) (Nat.le_trans hb (by simp)) (fun v' w' h1 h2 _ => h v' w' h1 h2)
  · intro j u hu
    cases j with
    | zero =>
      simp at hu
      subst hu
      rw [show (⟨wr.heap.size, 0, none⟩ : Addr).add 0 = ⟨wr.heap.size, 0, none⟩ from rfl, World.cell?_alloc_at _ _ _ _ rfl]
      rfl
    | succ j => simp at hu
  · intro u hu
    simp at hu
    subst hu
    rfl
theorem infoStr : (Try.prog.info? 9).map (fun i => (i.zero, i.size, i.bytes)) = some (some (.string ⟨#[]⟩), 1, 16) := by kernel_rfl
/-- 'out = append(out, z)', texts -/
theorem app_str {ops : Array Oper} {rest : List Oper} {o : Oper} {a : Act} {Q : Exit → Act → World → Prop} (hgd : o.guard = none) (s x : Operand)
    (ho : o.op = .call { callee := .builtin .append, args := #[s, x], argTypes := #[22, 22] })
    (wr : World) (base n : Nat) (v : Value) (xs : List Value) (z : ByteArray) (hs : a.eval s = v) (hx : a.eval x = .slice (some ⟨wr.heap.size, 0, none⟩) 1 1)
    (hown : wr.ownsRow base 9 1 v n xs) (hn : n ≤ 1099511627776) (hb : base ≤ wr.heap.size)
    (h : ∀ v' w', w'.ownsRow base 9 1 v' (n + 1) (xs ++ [.string z]) → (wr.alloc (.cells #[.string z] 9)).grownBy w' v.ownBlock → wpList Try.prog ops Q rest (a.put o.dst v') w') :
    wpList Try.prog ops Q (o :: rest) a (wr.alloc (.cells #[.string z] 9)) := by
  obtain ⟨i0, hi, hz0, hz1, hz2⟩ := info_parts infoStr
  refine wpList_append_own _ hgd s x 22 ho base 9 i0 (.string ⟨#[]⟩) 1 16 Try.underlying22 hi hz0 hz1 hz2 rfl (by decide) v n xs hs (hown.alloc _) ⟨wr.heap.size, 0, none⟩ 1 1 [.string z] hx rfl ?_ ?_ (by unfold maxLen; omega) (by omega) (Nat.le_trans hb (by simp)) (fun v' w' h1 h2 _ => h v' w' h1 h2)
  · intro j u hu
    cases j with
    | zero =>
      simp at hu
      subst hu
      rw [show (⟨wr.heap.size, 0, none⟩ : Addr).add 0 = ⟨wr.heap.size, 0, none⟩ from rfl, World.cell?_alloc_at _ _ _ _ rfl]
      rfl
    | succ j => simp at hu
  · intro u hu
    simp at hu
    subst hu
    rfl
/-- 'append(out, y, z)', texts -/
theorem app_str2 {ops : Array Oper} {rest : List Oper} {o : Oper} {a : Act} {Q : Exit → Act → World → Prop} (hgd : o.guard = none) (s x : Operand)
    (ho : o.op = .call { callee := .builtin .append, args := #[s, x], argTypes := #[22, 22] })
    (wr : World) (base n : Nat) (v : Value) (xs : List Value) (y z : ByteArray) (hs : a.eval s = v) (hx : a.eval x = .slice (some ⟨wr.heap.size, 0, none⟩) 2 2)
    (hown : wr.ownsRow base 9 1 v n xs) (hn : n ≤ 1099511627776) (hb : base ≤ wr.heap.size)
    (h : ∀ v' w', w'.ownsRow base 9 1 v' (n + 2) (xs ++ [.string y, .string z]) → (wr.alloc (.cells #[.string y, .string z] 9)).grownBy w' v.ownBlock → wpList Try.prog ops Q rest (a.put o.dst v') w') :
    wpList Try.prog ops Q (o :: rest) a (wr.alloc (.cells #[.string y, .string z] 9)) := by
  obtain ⟨i0, hi, hz0, hz1, hz2⟩ := info_parts infoStr
  refine wpList_append_own _ hgd s x 22 ho base 9 i0 (.string ⟨#[]⟩) 1 16 Try.underlying22 hi hz0 hz1 hz2 rfl (by decide) v n xs hs (hown.alloc _) ⟨wr.heap.size, 0, none⟩ 2 2 [.string y, .string z] hx rfl ?_ ?_ (by unfold maxLen; omega) (by omega) (Nat.le_trans hb (by simp)) (fun v' w' h1 h2 _ => h v' w' h1 h2)
  · intro j u hu
    rw [show (⟨wr.heap.size, 0, none⟩ : Addr).add j = ⟨wr.heap.size, j, none⟩ by unfold Addr.add; split <;> simp_all, World.cell?_alloc_at _ _ _ _ rfl]
    match j, hu with
    | 0, hu => simp at hu; subst hu; rfl
    | 1, hu => simp at hu; subst hu; rfl
    | j + 2, hu => simp at hu
  · intro u hu
    simp at hu
    rcases hu with rfl | rfl <;> rfl
/-- the frame behind an append of a new block -/
theorem below_app {w wr w1 : World} {base e size n : Nat} {v : Value} {xs : List Value} (hB : Below w.heap.size w wr) (hown : wr.ownsRow base e size v n xs) (hb : w.heap.size ≤ base) {o : Obj} (hg : (wr.alloc o).grownBy w1 v.ownBlock) : Below w.heap.size w w1 :=
  (hB.alloc hB.size o).grown hg (Nat.le_trans hB.size (by simp)) (fun k hk => Nat.le_trans hb (hown.lt k hk).1)
end Go.Proofs.Ytlhlehmmaoadgaa
