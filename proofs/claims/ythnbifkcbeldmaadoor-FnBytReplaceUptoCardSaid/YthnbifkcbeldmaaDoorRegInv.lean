/- A region that draws its order, walked once: by what each operation yields, whatever came ahead of it. -/
import Derived.WalkKit
import Derived.RegionTactic
namespace Go.Proofs.YthnbifkcbeldmaaDoor
open Go Go.RowKit
set_option linter.unusedVariables false
section
variable {P : Program} {ops : Array Oper} {Q : Exit → Act → World → Prop}
theorem getD_in {α : Type} {l : Array α} {i : Nat} {d : α} (h : i < l.size) : l.getD i d = l[i] := by simp [Array.getD, h]
theorem mem_ready {listed : Array Bool} {i : Nat} : i ∈ Region.ready .any ops listed ↔ ∃ h : i < ops.size, listed.getD i true = false ∧ ∀ e ∈ (ops[i]'h).after, Region.binds .any e = true → listed.getD e.on false = true := by
  unfold Region.ready
  rw [List.mem_filter, List.mem_range]
  constructor
  · rintro ⟨h, h2⟩
    rw [Array.getElem?_eq_getElem h, Option.map_some, Option.getD_some, Bool.and_eq_true, Array.all_eq_true_iff_forall_mem] at h2
    refine ⟨h, by simpa using h2.1, fun e he hb => ?_⟩
    have := h2.2 e he
    rw [hb] at this
    simpa using this
  · rintro ⟨h, h2, h3⟩
    refine ⟨h, ?_⟩
    rw [Array.getElem?_eq_getElem h, Option.map_some, Option.getD_some, Bool.and_eq_true, Array.all_eq_true_iff_forall_mem]
    refine ⟨by simpa using h2, fun e he => ?_⟩
    cases hb : Region.binds .any e with
    | false => rfl
    | true => simpa using h3 e he hb
theorem wpAny_inv (Inv : Array Bool → Act → World → Prop)
    (hback : ∀ (i : Nat) (o : Oper), ops[i]? = some o → ∀ e ∈ o.after, e.on < i)
    (hstep : ∀ (listed : Array Bool) (a : Act) (w : World) (i : Nat) (o : Oper), listed.size = ops.size → ops[i]? = some o → (∀ e ∈ o.after, Region.binds .any e = true → listed.getD e.on false = true) → Inv listed a w →
      wpOp P ops Q i (fun a' w' => Inv (listed.setIfInBounds i true) a' w') a w)
    (hdone : ∀ (listed : Array Bool) (a : Act) (w : World), (∀ i, i < ops.size → listed.getD i false = true) → Inv listed a w → Q .normal a w) :
    ∀ (fuel : Nat) (listed : Array Bool) (a : Act) (w : World), listed.size = ops.size → listed.toList.count true + fuel = ops.size → Inv listed a w → wpAny P .any ops Q fuel listed a w := by
  intro fuel
  induction fuel with
  | zero =>
    intro listed a w hs hc hI
    have hall : ∀ i, i < ops.size → listed.getD i false = true := fun i hi => by
      have hi2 : i < listed.size := by omega
      have h1 : listed.toList.count true = listed.toList.length := by rw [Array.length_toList]; omega
      have h2 := (List.count_eq_length.1 h1) listed[i] (by simp)
      rw [getD_in hi2, ← h2]
    refine ⟨List.eq_nil_iff_forall_not_mem.2 fun i hi => ?_, hdone listed a w hall hI⟩
    obtain ⟨h, h2, _⟩ := mem_ready.1 hi
    have h3 := hall i h
    rw [getD_in (by omega)] at h2 h3
    rw [h3] at h2
    cases h2
  | succ fuel ih =>
    intro listed a w hs hc hI
    refine ⟨fun hr => hdone listed a w (fun i hi => ?_) hI, fun i hi => ?_⟩
    · induction i using Nat.strongRecOn with
      | _ i IH =>
        cases hl : listed.getD i true with
        | false =>
          exfalso
          have : i ∈ Region.ready .any ops listed := mem_ready.2 ⟨hi, hl, fun e he _ => by
            have hb := hback i _ (Array.getElem?_eq_getElem hi) e he
            exact IH e.on hb (by omega)⟩
          rw [hr] at this
          cases this
        | true =>
          rw [getD_in (by omega)] at hl ⊢
          exact hl
    · obtain ⟨h, h2, h3⟩ := mem_ready.1 hi
      have hil : i < listed.size := by omega
      refine wpOp_mono (fun a' w' hI' => ih _ a' w' (by rw [Array.size_setIfInBounds]; exact hs) ?_ hI') (hstep listed a w i _ hs (Array.getElem?_eq_getElem h) h3 hI)
      rw [getD_in hil] at h2
      rw [Array.toList_setIfInBounds, List.count_set (by rw [Array.length_toList]; exact hil)]
      have e : listed.toList[i]'(by rw [Array.length_toList]; exact hil) = false := by rw [← h2]; simp
      rw [e]
      show listed.toList.count true - 0 + 1 + fuel = ops.size
      omega
theorem wanted_none {o : Oper} {y : Nat → Option Bool} (h : o.guard = none) : Region.wanted o y = true := by unfold Region.wanted; rw [h]
theorem wanted_some {o o' : Oper} {a : Act} {j d' : Nat} {b : Bool} (h : o.guard = some (j, b)) (ho' : ops[j]? = some o') (hd' : o'.dst = some d') (hv : a.tmps[d']? = some (.bool b)) : Region.wanted o (yielded ops a.tmps) = true := by
  unfold Region.wanted
  rw [h]
  unfold yielded
  simp only [ho', hd', hv, Option.bind_some]
  simp
/-- what is known on the way: the slots that the region does not write, the world, and of each operation that has come what it yielded -/
def RInv (ops : Array Oper) (D : List Deferred) (N : Nat) (fix : List (Nat × Value)) (S : Nat → Value → World → Prop) (G : World → Prop) (listed : Array Bool) (a : Act) (w : World) : Prop :=
  a.defers = D ∧ a.tmps.size = N ∧ (∀ p ∈ fix, a.tmps[p.1]? = some p.2) ∧ G w ∧ ∀ (i : Nat) (o : Oper) (d : Nat), ops[i]? = some o → o.dst = some d → listed.getD i false = true → ∃ v, a.tmps[d]? = some v ∧ S d v w
theorem eval_of {a : Act} {d : Nat} {v : Value} (h : a.tmps[d]? = some v) : a.eval (.tmp d) = v := by
  show a.tmps.getD d undef = v
  rw [Array.getD_eq_getD_getElem?, h]; rfl
theorem rinv_step {D : List Deferred} {N : Nat} {fix : List (Nat × Value)} {S : Nat → Value → World → Prop} {G : World → Prop} {listed : Array Bool} {a : Act} {w : World} {i d : Nat} {o : Oper}
    (ho : ops[i]? = some o) (hd : o.dst = some d) (hdN : d < N) (hfix : ∀ p ∈ fix, p.1 ≠ d) (hdist : ∀ (j : Nat) (o' : Oper), ops[j]? = some o' → o'.dst = some d → j = i)
    (core : (∀ p ∈ fix, a.eval (.tmp p.1) = p.2) → G w → (∀ e ∈ o.after, Region.binds .any e = true → ∀ o' d', ops[e.on]? = some o' → o'.dst = some d' → ∃ v, a.tmps[d']? = some v ∧ a.eval (.tmp d') = v ∧ S d' v w) →
      Region.wanted o (yielded ops a.tmps) = true ∧ ∀ K : Act → World → Prop, (∀ v w', G w' → (∀ d' v', S d' v' w → S d' v' w') → S d v w' → K (a.put o.dst v) w') → Oper.wp P o a w K Q)
    (hs : listed.size = ops.size) (hdeps : ∀ e ∈ o.after, Region.binds .any e = true → listed.getD e.on false = true) (hI : RInv ops D N fix S G listed a w) :
    wpOp P ops Q i (fun a' w' => RInv ops D N fix S G (listed.setIfInBounds i true) a' w') a w := by
  obtain ⟨h1, h2, h3, h4, h5⟩ := hI
  obtain ⟨hw, hK⟩ := core (fun p hp => eval_of (h3 p hp)) h4 (fun e he hb o' d' ho' hd' => by
    obtain ⟨v, hv, hS⟩ := h5 e.on o' d' ho' hd' (hdeps e he hb)
    exact ⟨v, hv, eval_of hv, hS⟩)
  refine wpOp_step ho fun K' hK' => ?_
  rw [if_pos hw]
  refine hK K' fun v w' hG hst hS => hK' _ _ ?_
  rw [hd]
  refine ⟨h1, ?_, fun p hp => ?_, hG, fun j o' d' ho' hd' hl => ?_⟩
  · show (a.tmps.setIfInBounds d v).size = N
    rw [Array.size_setIfInBounds]; exact h2
  · show (a.tmps.setIfInBounds d v)[p.1]? = some p.2
    rw [Array.getElem?_setIfInBounds_ne (Ne.symm (hfix p hp))]; exact h3 p hp
  · by_cases hjd : d' = d
    · subst hjd
      obtain rfl := hdist j o' ho' hd'
      refine ⟨v, ?_, hS⟩
      show (a.tmps.setIfInBounds d' v)[d']? = some v
      rw [Array.getElem?_setIfInBounds_self_of_lt (by omega)]
    · have hji : i ≠ j := fun e => by
        subst e
        rw [ho] at ho'
        cases ho'
        rw [hd] at hd'
        exact hjd (Option.some.inj hd').symm
      have hl2 : listed.getD j false = true := by
        rw [Array.getD_eq_getD_getElem?, Array.getElem?_setIfInBounds_ne hji, ← Array.getD_eq_getD_getElem?] at hl
        exact hl
      obtain ⟨v', hv', hS'⟩ := h5 j o' d' ho' hd' hl2
      refine ⟨v', ?_, hst _ _ hS'⟩
      show (a.tmps.setIfInBounds d v)[d']? = some v'
      rw [Array.getElem?_setIfInBounds_ne (Ne.symm hjd)]; exact hv'
end
section
variable {P : Program} {o : Oper} {a : Act} {w w' : World} {K : Act → World → Prop} {Q : Exit → Act → World → Prop} {ρ : Operand → Value}
theorem wp_val {v : Value} (h : (execOp a.eval o).run P w = .ok (.value v) w') (hK : K (a.put o.dst v) w') : Oper.wp P o a w K Q := by
  unfold Oper.wp; rw [h]; exact hK
theorem wp_call {f : FuncId} {args : Array Value} (h : (execOp a.eval o).run P w = .ok (.enter f args) w) (hc : Calls P f args w fun e w' => ∃ v, e = .returned v ∧ K (a.put o.dst v) w') : Oper.wp P o a w K Q := by
  unfold Oper.wp
  rw [h]
  refine Calls.mono hc ?_
  rintro e w2 ⟨v, rfl, hk⟩
  exact hk
theorem ex_move {x : Operand} (ho : o.op = .move x) : (execOp ρ o).run P w = .ok (.value (ρ x)) w := by
  unfold execOp; rw [ho]; rfl
theorem ex_assign {x : Operand} (ho : o.op = .assign x) : (execOp ρ o).run P w = .ok (.value (ρ x)) w := by
  unfold execOp; rw [ho]; rfl
theorem ex_convert {s d : TypeId} {x : Operand} {v : Value} (ho : o.op = .convert s d x) (h : (convert s d (ρ x)).run P w = .ok v w') : (execOp ρ o).run P w = .ok (.value v) w' := by
  unfold execOp; rw [ho]; simp [Sem.run_bind, h, Result.andThen]
theorem ex_build {t : TypeId} {n : Nat} {parts : Array (Nat × Operand)} {v : Value} (ho : o.op = .buildSlice t n parts) (h : (Instr.buildSlice t n (parts.map fun (i, x) => (i, ρ x))).run P w = .ok v w') : (execOp ρ o).run P w = .ok (.value v) w' := by
  unfold execOp; rw [ho]; simp [Sem.run_bind, h, Result.andThen]
theorem ex_pick {c x y : Operand} (ho : o.op = .pick c x y) (hc : ρ c = .bool true) : (execOp ρ o).run P w = .ok (.value (ρ x)) w := by
  unfold execOp; rw [ho]; simp [hc, asBool]
theorem ex_eql {t ty : TypeId} {x y : Operand} {s : ByteArray} (ho : o.op = .binOp .eql t x y ty) (hx : ρ x = .string s) (hy : ρ y = .string s) : (execOp ρ o).run P w = .ok (.value (.bool true)) w := by
  have h : (binOp .eql t (.string s) (.string s)).run P w = .ok (.bool true) w := by
    simp [binOp, Op.stringOp]
  unfold execOp; rw [ho]; simp [hx, hy, eqGuard, Sem.run_bind, Result.andThen, h]
theorem ex_call {f : FuncId} {as : Array Operand} {ts : Array TypeId} (ho : o.op = .call { callee := .value (.func f), args := as, argTypes := ts }) (he : ∀ args w, (callFunc f args).run P w = .ok (.enter f args) w) : (execOp a.eval o).run P w = .ok (.enter f (as.map a.eval)) w := by
  unfold execOp; rw [ho]; simp [resolve, Deferred.ofValue, invoke, Act.eval, Sem.run_bind, Result.andThen, he]
end
/-- every operation of a region, one after another -/
def AllOps (C : Nat → Oper → Prop) : Nat → List Oper → Prop
  | _, [] => True
  | n, o :: l => C n o ∧ AllOps C (n + 1) l
theorem allOps_get {C : Nat → Oper → Prop} : ∀ (l : List Oper) (n : Nat), AllOps C n l → ∀ i o, l[i]? = some o → C (n + i) o
  | [], _, _, i, o, h => by simp at h
  | x :: l, n, ⟨h1, h2⟩, 0, o, h => by
    rw [List.getElem?_cons_zero] at h
    cases h
    exact h1
  | x :: l, n, ⟨h1, h2⟩, i + 1, o, h => by
    rw [List.getElem?_cons_succ] at h
    have := allOps_get l (n + 1) h2 i o h
    rwa [show n + 1 + i = n + (i + 1) by omega] at this
theorem dst_inj {ops : Array Oper} {dl : List Nat} (hdl : ops.toList.map (·.dst) = dl.map some) (hn : dl.Nodup) {i j d : Nat} {o o' : Oper} (ho : ops[i]? = some o) (hd : o.dst = some d) (ho' : ops[j]? = some o') (hd' : o'.dst = some d) : j = i := by
  have key : ∀ (k : Nat) (x : Oper), ops[k]? = some x → x.dst = some d → dl[k]? = some d := fun k x hx hxd => by
    have h1 : (ops.toList.map (·.dst))[k]? = some (some d) := by rw [List.getElem?_map, Array.getElem?_toList, hx, Option.map_some, hxd]
    rw [hdl, List.getElem?_map] at h1
    cases h2 : dl[k]? with
    | none => rw [h2] at h1; cases h1
    | some y => rw [h2, Option.map_some] at h1; cases h1; rfl
  have h1 := key i o ho hd
  have h2 := key j o' ho' hd'
  have hi := (List.getElem?_eq_some_iff.1 h1).1
  have hj := (List.getElem?_eq_some_iff.1 h2).1
  have hp := List.pairwise_iff_getElem.1 hn
  have e1 := (List.getElem?_eq_some_iff.1 h1).2
  have e2 := (List.getElem?_eq_some_iff.1 h2).2
  rcases Nat.lt_trichotomy i j with h3 | h3 | h3
  · exact absurd (e1.trans e2.symm) (hp i j hi hj h3)
  · exact h3.symm
  · exact absurd (e2.trans e1.symm) (hp j i hj hi h3)
/-- a later world: the rows of cells keep their cells -/
def Stp (w w' : World) : Prop := ∀ (g : Nat) (C : Array Value) (e : TypeId) (fr : Nat × Nat), w.heap[g]? = some (.cells C e fr) → ∃ fr', w'.heap[g]? = some (.cells C e fr')
theorem Stp.refl (w : World) : Stp w w := fun _ _ _ fr h => ⟨fr, h⟩
theorem Stp.below {w w' : World} (h : Below w.heap.size w w') : Stp w w' := fun g C e fr hg => ⟨fr, by rw [h.block g (Array.getElem?_eq_some_iff.1 hg).1]; exact hg⟩
theorem Stp.cell {w w' : World} (h : Stp w w') {b o : Nat} {v : Value} (hc : w.cell? ⟨b, o, none⟩ = some v) : w'.cell? ⟨b, o, none⟩ = some v := by
  unfold World.cell? at hc ⊢
  cases hb : w.heap[b]? with
  | none => simp [hb] at hc
  | some ob =>
    cases ob with
    | cells C e fr =>
      obtain ⟨fr', h2⟩ := h b C e fr hb
      simp only [hb] at hc
      simp only [h2]
      exact hc
    | _ => simp [hb] at hc
theorem freeze_stp (w : World) (g k : Nat) : Stp w (w.freeze ⟨g, k, none⟩ 1) := fun b C e fr hb => by
  unfold World.freeze
  rw [if_neg (by decide)]
  show ∃ fr', (w.heap.modify g _)[b]? = _
  rw [Array.getElem?_modify]
  by_cases h : g = b
  · rw [if_pos h, hb]
    obtain ⟨lo, hi⟩ := fr
    exact ⟨_, rfl⟩
  · rw [if_neg h, hb]
    exact ⟨fr, rfl⟩
theorem freeze_below {B : Nat} {w0 w : World} {g k : Nat} (h : Below B w0 w) (hg : B ≤ g) : Below B w0 (w.freeze ⟨g, k, none⟩ 1) := by
  refine h.trans ?_
  unfold World.freeze
  rw [if_neg (by decide)]
  refine ⟨rfl, rfl, rfl, by simp, fun i hi => ?_⟩
  show (w.heap.modify g _)[i]? = _
  rw [Array.getElem?_modify, if_neg (by omega)]
theorem run_convert_frozen {P : Program} (w : World) (t e : TypeId) (g : Nat) (C : Array Value) (fr : Nat × Nat) (n c : Nat) (hg : w.heap[g]? = some (.cells C e fr)) (ht : P.underlying t = some (.slice e)) (he : P.underlying e = some (.int .u8)) :
    ∃ k, (convert t t (.slice (some ⟨g, 0, none⟩) n c)).run P w = .ok (.slice (some ⟨g, 0, none⟩) n c) (w.freeze ⟨g, k, none⟩ 1) := by
  have hsh : w.shape? g = some (e, C.size) := by
    unfold World.shape?
    rw [hg]
  exact ⟨_, by simp [convert, run_underlying ht, run_underlying he, markStringish, hsh]; rfl⟩
theorem region_inv {P : Program} {ops : Array Oper} {Q : Exit → Act → World → Prop} {id : Nat} {a : Act} {w : World} (hm : P.follows .mixedOrders = true) (D : List Deferred) (N : Nat) (fix : List (Nat × Value)) (S : Nat → Value → World → Prop) (G : World → Prop)
    (hb : (ops.toList.zipIdx.all fun x => x.1.after.all fun e => decide (e.on < x.2)) = true) (dl : List Nat) (hdl : ops.toList.map (·.dst) = dl.map some) (hn : dl.Nodup) (hfx : ∀ d ∈ dl, d < N ∧ ∀ p ∈ fix, p.1 ≠ d)
    (h0 : a.defers = D ∧ a.tmps.size = N ∧ (∀ p ∈ fix, a.tmps[p.1]? = some p.2) ∧ G w.drew)
    (hcore : AllOps (fun i o => ∀ (d : Nat) (a : Act) (W : World), o.dst = some d → (∀ p ∈ fix, a.eval (.tmp p.1) = p.2) → G W →
      (∀ e ∈ o.after, Region.binds .any e = true → ∀ o' d', ops[e.on]? = some o' → o'.dst = some d' → ∃ v, a.tmps[d']? = some v ∧ a.eval (.tmp d') = v ∧ S d' v W) →
      Region.wanted o (yielded ops a.tmps) = true ∧ ∀ K : Act → World → Prop, (∀ v w', G w' → (∀ d' v', S d' v' W → S d' v' w') → S d v w' → K (a.put o.dst v) w') → Oper.wp P o a W K Q) 0 ops.toList)
    (hdone : ∀ (a : Act) (w : World), a.defers = D → a.tmps.size = N → G w → (∀ d ∈ dl, ∃ v, a.tmps[d]? = some v ∧ S d v w) → Q .normal a w) : (Code.region id ops true).wp P Q a w := by
  have key : ∀ (k d : Nat) (x : Oper), ops[k]? = some x → x.dst = some d → d ∈ dl := fun k d x hx hxd => by
    have h1 : (ops.toList.map (·.dst))[k]? = some (some d) := by rw [List.getElem?_map, Array.getElem?_toList, hx, Option.map_some, hxd]
    rw [hdl, List.getElem?_map] at h1
    cases h2 : dl[k]? with
    | none => rw [h2] at h1; cases h1
    | some y => rw [h2, Option.map_some] at h1; cases h1; exact List.mem_of_getElem? h2
  refine wp_region_any hm (wpAny_inv (RInv ops D N fix S G) ?_ ?_ ?_ _ _ _ _ (by simp) (by rw [Array.toList_replicate, List.count_replicate]; simp) ⟨h0.1, h0.2.1, h0.2.2.1, h0.2.2.2, ?_⟩)
  · intro i o ho e he
    rw [List.all_eq_true] at hb
    have hm2 : (o, i) ∈ ops.toList.zipIdx := by
      rw [List.mem_zipIdx_iff_getElem?]
      rw [Array.getElem?_toList]; exact ho
    have h := hb _ hm2
    rw [Array.all_eq_true_iff_forall_mem] at h
    exact of_decide_eq_true (h e he)
  · intro listed a' w' i o hs ho hdeps hI
    have hc := allOps_get _ 0 hcore i o (by rw [Array.getElem?_toList]; exact ho)
    cases hd : o.dst with
    | none =>
      exfalso
      have h1 : (ops.toList.map (·.dst))[i]? = some none := by rw [List.getElem?_map, Array.getElem?_toList, ho, Option.map_some, hd]
      rw [hdl, List.getElem?_map] at h1
      cases h2 : dl[i]? with
      | none => rw [h2] at h1; cases h1
      | some y => rw [h2, Option.map_some] at h1; cases h1
    | some d =>
      have hmem := key i d o ho hd
      exact rinv_step ho hd (hfx d hmem).1 (hfx d hmem).2 (fun j o' ho' hd' => dst_inj hdl hn ho hd ho' hd') (fun h1 h2 h3 => hc d a' w' hd h1 h2 h3) hs hdeps hI
  · intro listed a' w' hall hI
    obtain ⟨h1, h2, h3, h4, h5⟩ := hI
    refine hdone a' w' h1 h2 h4 fun d hd => ?_
    obtain ⟨k, hk, he⟩ := List.mem_iff_getElem.1 hd
    have hk2 : k < ops.size := by
      have := congrArg List.length hdl
      rw [List.length_map, List.length_map, Array.length_toList] at this
      omega
    have hko : ops[k]? = some ops[k] := Array.getElem?_eq_getElem hk2
    have hkd : ops[k].dst = some d := by
      have h6 : (ops.toList.map (·.dst))[k]? = (dl.map some)[k]? := by rw [hdl]
      rw [List.getElem?_map, List.getElem?_map, Array.getElem?_toList, hko, Option.map_some, List.getElem?_eq_getElem hk, Option.map_some, he] at h6
      exact Option.some.inj h6
    exact h5 k _ d hko hkd (hall k hk2)
  · intro i o d ho hd hl
    rw [Array.getD_eq_getD_getElem?, Array.getElem?_replicate] at hl
    split at hl <;> simp at hl
end Go.Proofs.YthnbifkcbeldmaaDoor
