/- replacer.ZZSkips, impl.Skips; the law FnSuffixSkips. -/
import Derived.Test.YteajdljmbjdbkaaFinder
import Derived.Test.YteajdljmbjdbkaaTriAdd
import Derived.Test.YteajdljmbjdbkaaArr
import Derived.Great.BuildSlice
import Derived.Laws.Tables
import Derived.Laws.CopyOwn
import Derived.Laws.ResultCell
import Derived.Deep.WholeRow
import Derived.Maps.AppendAt
import Derived.Deep.AppendLies
import Derived.Deep.QuietTactic
import Derived.BigQuiet
namespace Go.Proofs.Yteajdljmbjdbkaa
open Go.RowKit Go.Lib
set_option linter.unusedVariables false
def badArr (bad : Nat → Int) : Array Value := ((List.range 256).map fun c => Value.int .i64 (bad c)).toArray
theorem badArr_size (bad : Nat → Int) : (badArr bad).size = 256 := by simp [badArr]
theorem badArr_at (bad : Nat → Int) (c : Nat) (v : Value) (h : (badArr bad).toList[c]? = some v) : c < 256 ∧ v = .int .i64 (bad c) := by
  unfold badArr at h
  rw [List.getElem?_map] at h
  obtain ⟨a, h1, rfl⟩ := Option.map_eq_some_iff.1 h
  obtain ⟨h2, h3⟩ := List.getElem?_eq_some_iff.1 h1
  rw [List.getElem_range] at h3
  rw [List.length_range] at h2
  exact ⟨h2, by rw [h3]⟩
theorem badArr_one (bad : Nat → Int) : (badArr bad).all (·.oneCell') = true := by
  rw [Array.all_eq_true]
  intro i hi
  simp [badArr, Value.oneCell']
section
variable {P : Program}
theorem still_load_at {ops : Array Oper} {rest : List Oper} {o : Oper} {a : Act} {w : World} {Q : Act → Prop} (hgd : o.guard = none) (ty : TypeId) (x : Operand) (ho : o.op = .load ty x)
    (g : Addr) (hx : a.eval x = .pointer (some g)) (cs : Array Value) (d : TypeDesc) (hc : ∀ j v, cs.toList[j]? = some v → w.cell? (g.add j) = some v)
    (hu : P.underlying ty = some d) (hd : (match d with | .struct _ | .array _ _ => true | _ => false) = true) (hi : (P.info? ty).map (·.size) = some cs.size)
    (h : wpStill P ops w Q rest (a.put o.dst (.agg cs))) : wpStill P ops w Q (o :: rest) a := by
  refine wpStill_step fun K hK => ?_
  rw [if_pos (by simp [Region.wanted, hgd])]
  unfold Oper.still execOp
  simp only [ho, hx, Instr.loadAt, Instr.sureAddr, Sem.run_bind, Sem.run_pure, Result.andThen_ok, run_loadVar_at w g ty cs d hc hu hd hi]
  rw [Oper.stillUpon_value]
  exact hK _ h
theorem step_load_arr {ops : Array Oper} {o : Oper} {a : Act} {w : World} {K : Act → World → Prop} {Q : Exit → Act → World → Prop} {E : Prop} (hgd : o.guard = none) (ty : TypeId) (x : Operand) (ho : o.op = .load ty x)
    (g : Addr) (hx : a.eval x = .pointer (some g)) (v : Value) (hl : (loadVar ty g).run P w = .ok v w) (h : K (a.put o.dst v) w) : if Region.wanted o (yielded ops a.tmps) = true then Oper.wp P o a w K Q else E := by
  rw [if_pos (by simp [Region.wanted, hgd])]
  unfold Oper.wp execOp
  simp only [ho, hx, Instr.loadAt, Instr.sureAddr, Sem.run_bind, Sem.run_pure, Result.andThen_ok, hl]
  exact h
theorem step_store_row {ops : Array Oper} {o : Oper} {a : Act} {w : World} {K : Act → World → Prop} {Q : Exit → Act → World → Prop} {E : Prop} (hgd : o.guard = none) (ty : TypeId) (x y : Operand) (ho : o.op = .store ty x y)
    (g : Nat) (cells : Array Value) (hx : a.eval x = .pointer (some ⟨g, 0, none⟩)) (hy : a.eval y = .agg cells) (t : TypeId) (old : Array Value) (hg : w.heap[g]? = some (.cells old t (0, 0))) (hi : (P.info? ty).map (·.size) = some cells.size)
    (hold : old.size = cells.size) (h1 : cells.all (·.oneCell') = true) (h : K (a.put o.dst undef) (w.setRow g cells)) : if Region.wanted o (yielded ops a.tmps) = true then Oper.wp P o a w K Q else E := by
  rw [if_pos (by simp [Region.wanted, hgd])]
  exact wp_store_row ty x y ho g cells hx hy t old hg hi hold h1 h
end
/-- what the two tables say -/
def SkPost (p : ByteArray) (w : World) (tb : Nat) (far : Nat → Nat) (w' : World) : Prop :=
  (∀ j, j < p.size → w'.cell? ⟨tb, j, none⟩ = some (.int .i64 ((far j : Int) + (p.size - 1 - j : Nat)))) ∧ (∀ j, j < p.size → BM.Good (gb p) p.size j (far j)) ∧ (∀ j, j < p.size → far j ≤ p.size) ∧ tb < w'.heap.size ∧ Below w.heap.size w w'
def ZsPost (p : ByteArray) (w : World) (e : Ending) (w' : World) : Prop :=
  ∃ (bad : Nat → Int) (far : Nat → Nat) (tb : Nat), e = .returned (.tuple #[.agg (badArr bad), .slice (some ⟨tb, 0, none⟩) p.size p.size]) ∧ SkPost p w tb far w'
theorem infoA : (Try.prog.info? 50).map (·.size) = some 256 := by kernel_rfl
set_option maxHeartbeats 3200000 in
set_option maxRecDepth 100000 in
theorem zzSkips (p : ByteArray) (hp : 1 ≤ p.size) (hs : p.size < 4294967296) (w : World) :
    Calls Try.prog 36 #[.string p] w (ZsPost p w) := by
  have HM := Lib.hid (fun (W : World) => makeFinder p hp hs W)
  go_enter Try.func36, Try.ntmps36
  go_wp2_with (go_at_call 44; refine (HM.out _).mono ?_; rintro e w1 ⟨bad, far, rfl, hr, hB⟩)
  have hsz : (w.alloc (.cells Try.zeroCells50 50)).heap.size = w.heap.size + 1 := by simp
  rw [hsz] at hr hB
  have hz : w1.drew.heap[w.heap.size]? = some (.cells Try.zeroCells50 50 (0, 0)) := (hB.block _ (by omega)).trans (heap_alloc_new w _)
  have hadd : ∀ j, (⟨w.heap.size + 1 + 1, 1, none⟩ : Addr).add j = ⟨w.heap.size + 1 + 1, 1 + j, none⟩ := fun j => by unfold Addr.add; split <;> simp_all
  have hcells : ∀ j v, (badArr (fun c => (bad c : Int))).toList[j]? = some v → w1.drew.cell? ((⟨w.heap.size + 1 + 1, 1, none⟩ : Addr).add j) = some v := fun j v h => by
    obtain ⟨h1, rfl⟩ := badArr_at _ j v h
    rw [hadd]
    exact hr.fin.bads j h1
  have hslot : w1.drew.cell? ⟨w.heap.size + 1 + 1, 257, none⟩ = some (.slice (some ⟨w.heap.size + 1, 0, none⟩) p.size p.size) := hr.fin.slot
  have hiA : (Try.prog.info? 50).map (·.size) = some (badArr (fun c => (bad c : Int))).size := by rw [badArr_size]; exact infoA
  have hzs : Try.zeroCells50.size = (badArr (fun c => (bad c : Int))).size := by rw [badArr_size]; kernel_rfl
  have B1 : Below w.heap.size w w1.drew := (((Below.refl _ w).alloc (Nat.le_refl _) _).trans (hB.mono (by omega))).drew
  have HR := Lib.hid hr
  have HC := Lib.hid hcells
  have HZ := Lib.hid hz
  have htl : w.heap.size + 1 < w1.heap.size := by
    have h1 := World.block_lt_of_cell? _ _ hslot
    have h2 : w1.drew.heap.size = w1.heap.size := rfl
    simp at h1
    omega
  clear hr hcells hz hB
  have BF : Below w.heap.size w (w1.drew.setRow w.heap.size (badArr (fun c => (bad c : Int)))) := below_setRow B1 (Nat.le_refl _) _
  have hld : (loadVar 50 ⟨w.heap.size, 0, none⟩).run Try.prog (w1.drew.setRow w.heap.size (badArr (fun c => (bad c : Int)))) = .ok (.agg (badArr (fun c => (bad c : Int)))) (w1.drew.setRow w.heap.size (badArr (fun c => (bad c : Int)))) :=
    run_loadVar_at _ ⟨w.heap.size, 0, none⟩ 50 (badArr (fun c => (bad c : Int))) (.array 256 3) (fun j v h => by
      have e : (⟨w.heap.size, 0, none⟩ : Addr).add j = ⟨w.heap.size, j, none⟩ := by unfold Addr.add; split <;> simp_all
      rw [e, cell_setRow_same _ _ _ _ _ _ _ HZ.out]
      simpa using h) Try.underlying50 rfl hiA
  have HP : Hid (SkPost p w (w.heap.size + 1) far (w1.drew.setRow w.heap.size (badArr (fun c => (bad c : Int))))) := Lib.hid ⟨fun j hj => by
      rw [cell_setRow_other _ _ _ _ (by simp)]
      exact HR.out.fin.goods j hj, HR.out.isGood, HR.out.farLe, by rw [setRow_size]; exact htl, BF⟩
  have hslot2 : (w1.drew.setRow w.heap.size (badArr (fun c => (bad c : Int)))).cell? ⟨w.heap.size + 1 + 1, 257, none⟩ = some (.slice (some ⟨w.heap.size + 1, 0, none⟩) p.size p.size) := by
    rw [cell_setRow_other _ _ _ _ (by simp; omega)]; exact hslot
  have hld0 : (loadVar 50 ⟨w.heap.size + 1 + 1, 1, none⟩).run Try.prog w1.drew = .ok (.agg (badArr (fun c => (bad c : Int)))) w1.drew :=
    run_loadVar_at _ _ 50 (badArr (fun c => (bad c : Int))) (.array 256 3) HC.out Try.underlying50 rfl hiA
  have HS : Hid (∀ (ops : Array Oper) (o : Oper) (a : Act) (K : Act → World → Prop) (Q : Exit → Act → World → Prop) (E : Prop) (hgd : o.guard = none) (x y : Operand) (ho : o.op = .store 50 x y) (hx : a.eval x = .pointer (some ⟨w.heap.size, 0, none⟩)) (hy : a.eval y = .agg (badArr (fun c => (bad c : Int)))) (h : K (a.put o.dst undef) (w1.drew.setRow w.heap.size (badArr (fun c => (bad c : Int))))), if Region.wanted o (yielded ops a.tmps) = true then Oper.wp Try.prog o a w1.drew K Q else E) :=
    Lib.hid (fun ops o a K Q E hgd x y ho hx hy h => step_store_row hgd 50 x y ho w.heap.size _ hx hy 50 Try.zeroCells50 HZ.out hiA hzs (badArr_one _) h)
  have HL0 := Lib.hid hld0
  clear B1 BF hld0
  generalize hCC : badArr (fun c => (bad c : Int)) = C at *
  have HCC := Lib.hid hCC
  clear hCC
  refine wp_region_any (by kernel_rfl) ?_
  change wpAny _ _ _ _ _ _ _ (World.drew _)
  refine wpAny_take (i := 0) (v := ?_) rfl (by kernel_rfl) (by kernel_rfl) (by kernel_rfl) (fun _ _ _ h => h) (Or.inl ⟨by rfl, by intro w; go_simp; try rfl⟩) ?_
  refine wpAny_take (i := 1) (v := ?_) rfl (by kernel_rfl) (by kernel_rfl) (by kernel_rfl) (fun _ _ _ h => h) (Or.inl ⟨by rfl, by intro w; go_simp; try rfl⟩) ?_
  refine wpAny_take (i := 2) (v := ?_) rfl (by kernel_rfl) (by kernel_rfl) (by kernel_rfl) (fun _ _ _ h => h) (Or.inl ⟨by rfl, by intro w; go_simp; try rfl⟩) ?_
  refine wpAny_take (i := 4) (v := ?_) rfl (by kernel_rfl) (by kernel_rfl) (by kernel_rfl) (fun _ _ _ h => h) (Or.inl ⟨by rfl, by intro w; go_simp; try rfl⟩) ?_
  refine wpAny_take (i := 5) (v := ?_) rfl (by kernel_rfl) (by kernel_rfl) (by kernel_rfl) (fun _ _ _ h => h) (Or.inl ⟨by rfl, by intro w; go_simp; try rfl⟩) ?_
  refine wpAny_take (i := 6) (v := ?_) rfl (by kernel_rfl) (by kernel_rfl) (by kernel_rfl) (fun _ _ _ h => h) (Or.inl ⟨by rfl, by intro w; go_simp; try rfl⟩) ?_
  go_simp
  refine wpAny_ready (rs := [3, 7]) (by kernel_rfl) (by simp) ?_
  refine AllReady.cons rfl (fun K hK => ?_) ?_
  · refine step_load_arr rfl 50 (.tmp 9) rfl ⟨w.heap.size + 1 + 1, 1, none⟩ rfl (.agg C) HL0.out ?_
    refine hK _ _ ?_
    clear hK K
    (try go_simp)
    refine wpAny_ready (rs := [7, 8]) (by kernel_rfl) (by simp) ?_
    refine AllReady.cons rfl (fun K hK => ?_) ?_
    · go_simp
      refine hK _ _ ?_
      clear hK K
      (try go_simp)
      refine wpAny_ready (rs := [8]) (by kernel_rfl) (by simp) ?_
      refine AllReady.cons rfl (fun K hK => ?_) ?_
      · refine HS.out _ _ _ _ _ _ rfl (.tmp 2) (.tmp 10) rfl rfl rfl ?_
        refine hK _ _ ?_
        clear hK K
        (try go_simp)
        refine wpAny_ready (rs := [9]) (by kernel_rfl) (by simp) ?_
        refine AllReady.cons rfl (fun K hK => ?_) ?_
        · go_simp
          refine hK _ _ ?_
          clear hK K
          (try go_simp)
          refine wpAny_done (by kernel_rfl) ?_ _
          go_wp2_with fail
          refine bodyPost_ret (v := .tuple #[.agg C, .slice (some ⟨w.heap.size + 1, 0, none⟩) p.size p.size]) ?_ rfl ⟨_, far, _, by rw [HCC.out], HP.out⟩
          rw [results_cell_tmp rfl]
          simp [asAddr, Result.andThen, hld]
        exact AllReady.nil
      exact AllReady.nil
    refine AllReady.cons rfl (fun K hK => ?_) ?_
    · refine HS.out _ _ _ _ _ _ rfl (.tmp 2) (.tmp 10) rfl rfl rfl ?_
      refine hK _ _ ?_
      clear hK K
      (try go_simp)
      refine wpAny_ready (rs := [7]) (by kernel_rfl) (by simp) ?_
      refine AllReady.cons rfl (fun K hK => ?_) ?_
      · go_simp
        refine hK _ _ ?_
        clear hK K
        (try go_simp)
        refine wpAny_ready (rs := [9]) (by kernel_rfl) (by simp) ?_
        refine AllReady.cons rfl (fun K hK => ?_) ?_
        · go_simp
          refine hK _ _ ?_
          clear hK K
          (try go_simp)
          refine wpAny_done (by kernel_rfl) ?_ _
          go_wp2_with fail
          refine bodyPost_ret (v := .tuple #[.agg C, .slice (some ⟨w.heap.size + 1, 0, none⟩) p.size p.size]) ?_ rfl ⟨_, far, _, by rw [HCC.out], HP.out⟩
          rw [results_cell_tmp rfl]
          simp [asAddr, Result.andThen, hld]
        exact AllReady.nil
      exact AllReady.nil
    exact AllReady.nil
  refine AllReady.cons rfl (fun K hK => ?_) ?_
  · go_simp
    refine hK _ _ ?_
    clear hK K
    (try go_simp)
    refine wpAny_ready (rs := [3]) (by kernel_rfl) (by simp) ?_
    refine AllReady.cons rfl (fun K hK => ?_) ?_
    · refine step_load_arr rfl 50 (.tmp 9) rfl ⟨w.heap.size + 1 + 1, 1, none⟩ rfl (.agg C) HL0.out ?_
      refine hK _ _ ?_
      clear hK K
      (try go_simp)
      refine wpAny_ready (rs := [8]) (by kernel_rfl) (by simp) ?_
      refine AllReady.cons rfl (fun K hK => ?_) ?_
      · refine HS.out _ _ _ _ _ _ rfl (.tmp 2) (.tmp 10) rfl rfl rfl ?_
        refine hK _ _ ?_
        clear hK K
        (try go_simp)
        refine wpAny_ready (rs := [9]) (by kernel_rfl) (by simp) ?_
        refine AllReady.cons rfl (fun K hK => ?_) ?_
        · go_simp
          refine hK _ _ ?_
          clear hK K
          (try go_simp)
          refine wpAny_done (by kernel_rfl) ?_ _
          go_wp2_with fail
          refine bodyPost_ret (v := .tuple #[.agg C, .slice (some ⟨w.heap.size + 1, 0, none⟩) p.size p.size]) ?_ rfl ⟨_, far, _, by rw [HCC.out], HP.out⟩
          rw [results_cell_tmp rfl]
          simp [asAddr, Result.andThen, hld]
        exact AllReady.nil
      exact AllReady.nil
    exact AllReady.nil
  exact AllReady.nil
theorem appI {ops : Array Oper} {rest : List Oper} {o : Oper} {a : Act} {Q : Exit → Act → World → Prop} (hw : Region.wanted o (yielded ops a.tmps) = true) (s x : Operand)
    (ho : o.op = .call { callee := .builtin .append, args := #[s, x], argTypes := #[27, 27] })
    (W : World) (base : Nat) (v : Value) (n : Nat) (xs : List Value) (hs : a.eval s = v) (hown : W.ownsRow base 3 1 v n xs)
    (ad : Addr) (m c : Nat) (news : List Value) (hx : a.eval x = .slice (some ad) m c) (hl : news.length = m) (hnews : ∀ j u, news[j]? = some u → W.cell? (ad.add j) = some u) (h1 : ∀ u ∈ news, u.oneCell' = true)
    (hn : n + m ≤ 4294967296) (hbase : base ≤ W.heap.size)
    (h : ∀ v' w', w'.ownsRow base 3 1 v' (n + m) (xs ++ news) → W.grownBy w' v.ownBlock → wpList Try.prog ops Q rest (a.put o.dst v') w') :
    wpList Try.prog ops Q (o :: rest) a W := by
  obtain ⟨i0, hi, hz0, hz1, hz2⟩ := info_parts info3
  obtain ⟨v', w', hr, h2, h3, h4, h5⟩ := run_append_own_at (P := Try.prog) W base 27 o.type 3 i0 (.int .i64 0) 1 8 Try.underlying27 hi hz0 hz1 hz2 rfl (by decide) v n xs hown ad m c news (by rw [hl, Nat.mul_one]) hnews h1 (by unfold maxLen; omega) (by omega) hbase
  refine wpList_step fun K hK => ?_
  rw [if_pos hw]
  unfold Oper.wp execOp
  simp only [ho, resolve, invoke, builtin, Sem.run_bind, Sem.run_pure, Result.andThen_ok, List.map_toArray, List.map_cons, List.map_nil, hs, hx, hr]
  exact hK _ _ (h v' w' h2 h3)
def IsPost (p : ByteArray) (w : World) (e : Ending) (w' : World) : Prop :=
  ∃ (v1 : Value) (far : Nat → Nat) (tb cap : Nat), e = .returned (.tuple #[v1, .slice (some ⟨tb, 0, none⟩) p.size cap]) ∧ SkPost p w tb far w'
def goodsL (p : ByteArray) (far : Nat → Nat) : List Value := (List.range p.size).map fun j => Value.int .i64 ((far j : Int) + (p.size - 1 - j : Nat))
theorem goodsL_at {p : ByteArray} {far : Nat → Nat} {j : Nat} {u : Value} (h : (goodsL p far)[j]? = some u) : j < p.size ∧ u = .int .i64 ((far j : Int) + (p.size - 1 - j : Nat)) := by
  unfold goodsL at h
  rw [List.getElem?_map] at h
  obtain ⟨a, h1, rfl⟩ := Option.map_eq_some_iff.1 h
  obtain ⟨h2, h3⟩ := List.getElem?_eq_some_iff.1 h1
  rw [List.getElem_range] at h3
  rw [List.length_range] at h2
  exact ⟨h2, by rw [h3]⟩
theorem goodsL_one (p : ByteArray) (far : Nat → Nat) : ∀ u ∈ goodsL p far, u.oneCell' = true := fun u hu => by
  obtain ⟨a, _, rfl⟩ := List.mem_map.1 hu
  rfl
theorem below_mk {B : Nat} {w w2 w3 : World} (B2 : Below B w w2) {T : TypeId} {cs : Array Value} {n c : Nat} (hg : (w2.alloc (.cells cs T)).grownBy w3 (Value.slice (some ⟨w2.heap.size, 0, none⟩) n c).ownBlock) (hB : B ≤ w2.heap.size) : Below B w w3 :=
  (B2.alloc hB _).grown hg (Nat.le_trans hB (by simp)) (fun k hk => by
    simp [Value.ownBlock] at hk
    omega)
set_option maxHeartbeats 3200000 in
set_option maxRecDepth 100000 in
theorem implSkips (p : ByteArray) (hp : 1 ≤ p.size) (hs : p.size ≤ 2147483647) (w : World) :
    Calls Try.prog 23 #[.string p] w (IsPost p w) := by
  have HZ := Lib.hid (zzSkips p hp (by omega) w)
  have hi0 := infoA
  go_enter Try.func23, Try.ntmps23
  have HG := Lib.hid (fun (far : Nat → Nat) (j : Nat) (u : Value) (h : (goodsL p far)[j]? = some u) => goodsL_at h)
  go_wp2_with (first
    | (go_at_call 36; refine HZ.out.mono ?_; rintro e w1 ⟨bad, far, tb, rfl, hk⟩; have HK := Lib.hid hk; have hsz := badArr_size bad; have HO := Lib.hid (badArr_one bad); obtain ⟨C, hC⟩ : ∃ C, badArr bad = C := ⟨_, rfl⟩; rw [hC] at hsz HO ⊢; have HCC := Lib.hid hC; clear hC hk; have hsc : (storeCells ⟨w1.heap.size, 0, none⟩ C.toList 0).run Try.prog (w1.alloc (.cells Try.zeroCells50 50)) = .ok () (w1.alloc (.cells C 50)) := run_storeCells_new (P := Try.prog) w1 50 Try.zeroCells50 C (by rw [hsz]; exact hi0) (by rw [hsz]; kernel_rfl) HO.out)
    | (at_builtin
       have HO5' := HO3.out
       have hB3 := HB3.out
       refine appI (by rfl) _ _ (by rfl) (w3.alloc (.cells #[] 3)) w.heap.size _ 0 [] (by rfl) (World.ownsRow_made w3 #[] 0 (Nat.le_trans HB0.out hB3.size) (Nat.zero_le _) rfl) ⟨tb, 0, none⟩ p.size p.size (goodsL p far) (by rfl) (by simp [goodsL]) (fun j u hu => ?_) (goodsL_one p far) (by omega) (by have := hB3.size; have := HB0.out; simp; omega) ?_
       · obtain ⟨hj, rfl⟩ := HG.out far j u hu
         have h1 := HK.out.1 j hj
         have e1 : (⟨tb, 0, none⟩ : Addr).add j = ⟨tb, j, none⟩ := by unfold Addr.add; split <;> simp_all
         rw [e1]
         exact ((hB3.alloc hB3.size _).cell (p := ⟨tb, j, none⟩) (by simpa using HK.out.2.2.2.1)).trans h1
       intro v5 w5 hown5 hgr5
       rw [Nat.zero_add, List.nil_append] at hown5
       have HB5 : Hid (Below w.heap.size w w5) := Lib.hid ((HK.out.2.2.2.2).trans (below_mk (hB3.mono HB0.out) hgr5 (Nat.le_trans HB0.out hB3.size)))
       obtain ⟨g5, cap5, rfl, _, hg5⟩ := World.ownsRow.form hown5 hp
       have HC5 := Lib.hid (hown5.cells (g := g5) rfl)
       have HG5 := Lib.hid hg5
       clear hown5 hgr5 hg5 HO5' hB3)
    | (at_builtin
       go_must (have HB0 : Hid (w.heap.size ≤ w1.heap.size) := Lib.hid HK.out.2.2.2.2.size
                have hOne : ∀ u ∈ C.toList, u.oneCell' = true := fun u hu => Array.all_eq_true_iff_forall_mem.1 HO.out u (by simpa using hu)
                have hNews := World.news_of_block (w := (w1.alloc (.cells C 50)).alloc (.cells #[] 3)) (B := w1.heap.size) (cs := C) (t := 50) (fr := (0, 0)) (by rw [heap_alloc_old _ _ (by simp)]; exact heap_alloc_new w1 _)
                have hMade := World.ownsRow_made (base := w1.heap.size) (e := 3) (size := 1) (w1.alloc (.cells C 50)) #[] 0 (by simp) (Nat.zero_le _) rfl
                have hSz : (w1.alloc (.cells C 50)).heap.size = w1.heap.size + 1 := by simp
                rw [hSz] at hMade
                have hLen : C.toList.length = 256 := by simpa using hsz)
       go_must (refine appI (by rfl) _ _ (by rfl) ((w1.alloc (.cells C 50)).alloc (.cells #[] 3)) w1.heap.size _ 0 [] (by rfl) hMade ⟨w1.heap.size, 0, none⟩ 256 256 C.toList (by rfl) hLen hNews hOne (by omega) (by simp; omega) ?_)
       intro v3 w3 hown3 hgr3
       rw [← hSz] at hgr3
       have HB3 : Hid (Below w1.heap.size w1 w3) := Lib.hid (below_mk ((Below.refl w1.heap.size w1).alloc (Nat.le_refl _) _) hgr3 (by simp))
       have HO3 := Lib.hid hown3
       clear hown3 hgr3 hOne hNews hMade hLen hSz))
  go_ret2
  refine ⟨_, far, g5, cap5, rfl, fun j hj => ?_, HK.out.2.1, HK.out.2.2.1, HG5.out, HB5.out⟩
  have h1 := HC5.out j (.int .i64 ((far j : Int) + (p.size - 1 - j : Nat))) (by simp [goodsL, hj])
  have e1 : (⟨g5, 0, none⟩ : Addr).add j = ⟨g5, j, none⟩ := by unfold Addr.add; split <;> simp_all
  rwa [e1] at h1
end Go.Proofs.Yteajdljmbjdbkaa
