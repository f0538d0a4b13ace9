/- Laws for the walk: an array of small things read whole, and an element of it. -/
import Derived.Test.YtlhlehmmaoadgaaRows
import Derived.WalkKit
import Derived.Laws.Rows
import Derived.KernelRfl
namespace Go.Proofs.Ytlhlehmmaoadgaa
open Go.RowKit
set_option linter.unusedVariables false

section
variable {P : Program}
theorem run_loadVar_at (w : World) (a : Addr) (ty : TypeId) (cs : Array Value) (d : TypeDesc) (hc : ∀ j v, cs.toList[j]? = some v → w.cell? (a.add j) = some v)
    (hu : P.underlying ty = some d) (hd : (match d with | .struct _ | .array _ _ => true | _ => false) = true) (hi : (P.info? ty).map (·.size) = some cs.size) :
    (loadVar ty a).run P w = .ok (.agg cs) w := by
  have hl : (loadCells a cs.toList.length).run P w = .ok cs.toList.toArray w := run_loadCells_list (P := P) w a cs.toList hc
  cases hq : P.info? ty with
  | none => simp [hq] at hi
  | some i =>
    have hs : i.size = cs.size := by simpa [hq] using hi
    have hagg : (isAgg ty).run P w = .ok true w := by
      unfold isAgg
      rw [Sem.run_bind, run_underlying hu w]
      cases d <;> simp_all
    simp only [Array.length_toList, Array.toArray_toList] at hl
    simp [loadVar, Sem.run_bind, hagg, sizeOf, typeInfo, hq, hs, hl]
/-- an array that lies somewhere, loaded -/
theorem wpList_load_at {ops : Array Oper} {rest : List Oper} {o : Oper} {a : Act} {w : World} {Q : Exit → Act → World → Prop} (hgd : o.guard = none) (ty : TypeId) (x : Operand) (ho : o.op = .load ty x)
    (g : Addr) (hx : a.eval x = .pointer (some g)) (cs : Array Value) (d : TypeDesc) (hc : ∀ j v, cs.toList[j]? = some v → w.cell? (g.add j) = some v)
    (hu : P.underlying ty = some d) (hd : (match d with | .struct _ | .array _ _ => true | _ => false) = true) (hi : (P.info? ty).map (·.size) = some cs.size)
    (h : wpList P ops Q rest (a.put o.dst (.agg cs)) w) : wpList P ops Q (o :: rest) a w :=
  wpList_plain hgd fun _ hK => by
    unfold Oper.wp execOp
    simp only [ho, hx, Instr.loadAt, Instr.sureAddr, Sem.run_bind, Sem.run_pure, Result.andThen_ok, run_loadVar_at w g ty cs d hc hu hd hi]
    exact hK _ _ h
/-- an element of an array by value -/
theorem run_index_arr (w : World) (t e : TypeId) (n : Nat) (cs : Array Value) (k : IntKind) (i : Nat) (v : Value) (ht : P.underlying t = some (.array n e)) (he : ∀ w, (isAgg e).run P w = .ok false w) (hs : (P.info? e).map (·.size) = some 1) (hi : i < n) (hv : cs[i]? = some v) :
    (Instr.index t (.agg cs) (.int k (i : Int))).run P w = .ok v w := by
  have hii : (0 : Int) ≤ (i : Int) ∧ (i : Int) < (n : Int) := by omega
  obtain ⟨inf, hinf, hsz⟩ := Option.map_eq_some_iff.1 hs
  simp [Instr.index, run_underlying ht, asIntOf, hii, sizeOf, typeInfo, hinf, hsz, part, he, hv, go_sem]
  intro h; omega
end
end Go.Proofs.Ytlhlehmmaoadgaa
