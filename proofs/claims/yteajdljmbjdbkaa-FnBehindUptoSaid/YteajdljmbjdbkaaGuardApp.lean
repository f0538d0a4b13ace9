/- 'append' of texts where the operation has a guard that holds. -/
import Derived.Test.YteajdljmbjdbkaaStepStr
import Derived.Maps.AppendAt
namespace Go.Proofs.Yteajdljmbjdbkaa
open Go.RowKit Go.Lib
set_option linter.unusedVariables false
theorem below_made {B : Nat} {w w2 w3 : World} (B2 : Below B w w2) (hB : B ≤ w2.heap.size) (T : TypeId) (hg : (w2.alloc (.cells #[] T)).grownBy w3 (Value.slice (some ⟨w2.heap.size, 0, none⟩) 0 0).ownBlock) : Below B w w3 :=
  (B2.alloc hB _).grown hg (Nat.le_trans hB (by simp)) (fun k hk => by
    simp [Value.ownBlock] at hk
    omega)
theorem appG {ops : Array Oper} {rest : List Oper} {o : Oper} {a : Act} {Q : Exit → Act → World → Prop} (hw : Region.wanted o (yielded ops a.tmps) = true) (s x : Operand)
    (ho : o.op = .call { callee := .builtin .append, args := #[s, x], argTypes := #[22, 22] })
    (W : World) (base : Nat) (v : Value) (n : Nat) (xs : List Value) (hs : a.eval s = v) (hown : W.ownsRow base 9 1 v n xs)
    (ad : Addr) (m c : Nat) (news : List ByteArray) (hx : a.eval x = .slice (some ad) m c) (hl : news.length = m) (hnews : ∀ j u, (news.map Value.string)[j]? = some u → W.cell? (ad.add j) = some u)
    (hn : n + m ≤ 1099511627776) (hbase : base ≤ W.heap.size)
    (h : ∀ v' w', w'.ownsRow base 9 1 v' (n + m) (xs ++ news.map Value.string) → W.grownBy w' v.ownBlock → wpList Try.prog ops Q rest (a.put o.dst v') w') :
    wpList Try.prog ops Q (o :: rest) a W := by
  obtain ⟨i0, hi, hz0, hz1, hz2⟩ := info_parts infoStr
  obtain ⟨v', w', hr, h2, h3, h4, h5⟩ := run_append_own_at (P := Try.prog) W base 22 o.type 9 i0 (.string ⟨#[]⟩) 1 16 Try.underlying22 hi hz0 hz1 hz2 rfl (by decide) v n xs hown ad m c (news.map Value.string) (by rw [List.length_map, hl, Nat.mul_one]) hnews (fun u hu => by
    obtain ⟨s, _, rfl⟩ := List.mem_map.1 hu; rfl) (by unfold maxLen; omega) (by omega) hbase
  refine wpList_step fun K hK => ?_
  rw [if_pos hw]
  unfold Oper.wp execOp
  simp only [ho, resolve, invoke, builtin, Sem.run_bind, Sem.run_pure, Result.andThen_ok, List.map_toArray, List.map_cons, List.map_nil, hs, hx, hr]
  exact hK _ _ (h v' w' h2 h3)
end Go.Proofs.Yteajdljmbjdbkaa
