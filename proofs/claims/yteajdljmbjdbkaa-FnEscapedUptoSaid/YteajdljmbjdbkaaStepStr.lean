/- 'append(out, y, z)' as one step of a region that draws. -/
import Derived.Test.YteajdljmbjdbkaaPairs
import Derived.Deep.AppendLies
import Derived.Deep.RegionLaw
namespace Go.Proofs.Yteajdljmbjdbkaa
open Go.RowKit Go.Lib
set_option linter.unusedVariables false
theorem step_str2 {ops : Array Oper} {o : Oper} {a : Act} {W : World} {K : Act → World → Prop} {Q : Exit → Act → World → Prop} {E : Prop} (hgd : o.guard = none) (s x : Operand)
    (ho : o.op = .call { callee := .builtin .append, args := #[s, x], argTypes := #[22, 22] })
    (B base n : Nat) (v : Value) (xs : List Value) (y z : ByteArray) (T : TypeId) (fr : Nat × Nat) (hs : a.eval s = v) (hx : a.eval x = .slice (some ⟨B, 0, none⟩) 2 2)
    (hbk : W.heap[B]? = some (.cells #[.string y, .string z] T fr)) (hown : W.ownsRow base 9 1 v n xs) (hn : n ≤ 1099511627776) (hb : base ≤ W.heap.size)
    (h : ∀ g cap w', w'.ownsRow base 9 1 (.slice (some ⟨g, 0, none⟩) (n + 2) cap) (n + 2) (xs ++ [.string y, .string z]) → W.grownBy w' v.ownBlock → K (a.put o.dst (.slice (some ⟨g, 0, none⟩) (n + 2) cap)) w') :
    if Region.wanted o (yielded ops a.tmps) = true then Oper.wp Try.prog o a W K Q else E := by
  obtain ⟨i0, hi, hz0, hz1, hz2⟩ := info_parts infoStr
  exact step_append_lies W hgd s x 22 ho base 9 i0 (.string ⟨#[]⟩) 1 16 Try.underlying22 hi hz0 hz1 hz2 rfl (by decide) v n xs hs hown ⟨B, 0, none⟩ 2 2 [.string y, .string z] hx rfl
    (World.news_of_block hbk) (fun u hu => by
      simp at hu
      rcases hu with rfl | rfl <;> rfl) (by omega) (by unfold maxLen; omega) (by omega) hb W.heap.size rfl (fun g cap w' h1 h2 _ _ => h g cap w' h1 h2)
end Go.Proofs.Yteajdljmbjdbkaa
