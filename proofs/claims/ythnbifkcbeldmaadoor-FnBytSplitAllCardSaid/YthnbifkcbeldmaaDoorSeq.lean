/- A range over a function all of whose rounds go on: the iterator has its values in a fixed order, and may write one box of its own between two rounds. (Out of the kit's laws wpIn_rangeFunc, roundIn_of_wpIn and the runs of the loop's record.) -/
import Derived.RangeFuncNested
import Derived.RangeFuncBound
import Derived.RangeFuncCalls
import Derived.RangeFuncLeaves
import Derived.RangeFuncBox
import Derived.Laws.AppendOwn
import Derived.Below
namespace Go.Proofs.YthnbifkcbeldmaaDoor
open Go Go.RowKit
set_option linter.unusedVariables false

/-- what is said abides new blocks, and a turn of block Bs -/
def AbidesBox {β : Type} (Bs : Nat) (J : β → World → Prop) : Prop :=
  ∀ s A B row, J s A → A.grownBy B row → (∀ r, row = some r → r = Bs) → J s B
theorem AbidesBox.below {β : Type} {Bs : Nat} {J : β → World → Prop} (h : AbidesBox Bs J) {s : β} {A B : World} (hj : J s A) (hb : Below A.heap.size A B) : J s B :=
  h s A B none hj ⟨hb.os, hb.tape, hb.output, hb.size, fun k hk _ => hb.block k hk⟩ (fun r e => by cases e)
theorem AbidesBox.set {β : Type} {Bs : Nat} {J : β → World → Prop} (h : AbidesBox Bs J) {s : β} {A : World} (hj : J s A) (v : Value) : J s (A.setCell ⟨Bs, 0, none⟩ v) :=
  h s A _ (some Bs) hj (grownBy_setCell' A Bs v) (fun r e => by cases e; rfl)
/-- some blocks lie as they lay -/
def KeepsAt (bs : List Nat) (W W' : World) : Prop := ∀ b ∈ bs, W'.heap[b]? = W.heap[b]?
theorem KeepsAt.refl (bs : List Nat) (W : World) : KeepsAt bs W W := fun _ _ => rfl
theorem KeepsAt.trans {bs : List Nat} {A B C : World} (h : KeepsAt bs A B) (k : KeepsAt bs B C) : KeepsAt bs A C := fun b hb => (k b hb).trans (h b hb)
theorem KeepsAt.box {bs : List Nat} {W W' : World} (h : KeepsAt bs W W') {b : Nat} (hb : b ∈ bs) {t : TypeId} {v : Value} (hx : Boxed W b t v) : Boxed W' b t v := (h b hb).trans hx

/-- THE ITERATOR'S WORD: it hands the values xs on, one after the other. -/
def SeqBox {α : Type} (P : Program) (g : Nat) (lb : Array Value) (encs : α → Array Value) (bs : List Nat) (Bs : Nat) (xs : List α) (w : World) : Prop :=
  ∀ (l : Nat) (J : List α → World → Prop) (W : World), Below w.heap.size w W → AbidesBox Bs J →
    (∀ pre x W1, pre ++ [x] <+: xs → J pre W1 → YieldAt Fence.wide 1 P l (encs x) W1 fun e W' => e = .returned (.bool true) ∧ J (pre ++ [x]) W' ∧ KeepsAt bs W1 W') →
    J [] W → CallsIn Fence.wide 2 P g (#[.func (.yield l) #[] #[]] ++ lb) W fun e W' => (∃ v, e = .returned v) ∧ J xs W'

def goesOn {α : Type} (bs : List Nat) (I : List α → World → Prop) (xs : List α) (W : World) : Exit → Act → World → Prop
  | .normal, _, W' => KeepsOthers W W' ∧ KeepsAt bs W W' ∧ I xs W'
  | _, _, _ => False

theorem rangeFunc_box {α : Type} {P : Program} {g : Operand} {ps : Array Tmp} {assign body : Code} {Q : Exit → Act → World → Prop} {a : Act} {w : World}
    {gf : Nat} {lb : Array Value} (hg : a.eval g = .func (.func gf) #[] lb) (eg : ∀ args w, (callFunc gf args).run P w = .ok (.enter gf args) w)
    {encs : α → Array Value} (hps : ∀ x, (encs x).size = ps.size) {bs : List Nat} {Bs : Nat} {xs : List α} (hbs : ∀ b ∈ bs, b < w.heap.size) (hBs : Bs < w.heap.size) (hseq : SeqBox P gf lb encs bs Bs xs w)
    (I : List α → World → Prop) (hI : ∀ s A B row, I s A → A.grownBy B row → (∀ r, row = some r → r = Bs ∨ (w.heap.size ≤ r ∧ ∃ o : Obj, A.heap[r]? = some o ∧ o.isCells = false)) → I s B)
    (h0 : I [] w) (a₁ : α → Act)
    (hassign : ∀ (l : Nat) (x : α) (W : World) (K : Act → World → Prop), K (a₁ x) W →
      assign.wpIn (Fence.wide.inRound l) 1 P (Exit.then K (fun _ _ _ => False)) { tmps := (ps.zip (encs x)).foldl (fun t (p, v) => t.setIfInBounds p v) a.tmps, defers := [] } W)
    (hbody : ∀ (l : Nat) (pre : List α) (x : α) (W : World), pre ++ [x] <+: xs → I pre W → body.wpIn (Fence.wide.inRound l) 1 P (goesOn bs I (pre ++ [x]) W) (a₁ x) W)
    (hdone : ∀ (D : Nat) (W : World), w.heap.size ≤ D → I xs W → W.heap[D]? = some (.deferred (some [])) → Q .normal { a with defers := { target := .collected D, args := #[] } :: a.defers } W) :
    (Code.rangeFunc g ps assign body).wpIn Fence.wide 3 P Q a w := by
  refine wpIn_rangeFunc ?_
  intro fn hfn
  show ∃ l mark w₁ d w₁' f args w₂, (Instr.enterLoop fn a.tmps ps assign body none).run P w = .ok (l, mark) w₁ ∧ _
  generalize hD : w.heap.size = D at *
  obtain ⟨rec, hrec⟩ : ∃ rec : LoopState → Loop, rec = fun st => { state := st, pending := none, fn, tmps := a.tmps, params := ps, assign, body, defers := D } := ⟨_, rfl⟩
  have hent := run_enterLoop_outer (P := P) (w := w) fn a.tmps ps assign body
  rw [hD] at hent
  generalize hW1 : (w.alloc (.deferred (some []))).alloc (.loop { state := .ready, pending := none, fn, tmps := a.tmps, params := ps, assign, body, defers := D }) = W1 at hent
  have hsz : W1.heap.size = D + 2 := by rw [← hW1]; simp [hD]
  have hL1 : W1.heap[D + 1]? = some (.loop (rec .ready)) := by
    rw [← hW1, hrec]
    have := World.alloc_heap_new (w.alloc (.deferred (some []))) (.loop { state := .ready, pending := none, fn, tmps := a.tmps, params := ps, assign, body, defers := D })
    rwa [World.size_alloc, hD] at this
  have hK1 : W1.heap[D]? = some (.deferred (some [])) := by
    rw [← hW1]
    have := World.alloc_heap_new w (.deferred (some []))
    rw [hD] at this
    exact (Below.heap_alloc _ _ _ (by simp [hD])).trans this
  have hI1 : I [] W1 := by
    rw [← hW1]
    exact hI _ _ _ none (hI _ _ _ none h0 (World.grownBy_alloc w _ none) (fun r e => by cases e)) (World.grownBy_alloc _ _ none) (fun r e => by cases e)
  have hb1 : Below D w W1 := by rw [← hW1, ← hD]; exact ((Below.refl _ w).alloc (Nat.le_refl _) _).alloc (by simp) _
  refine ⟨D + 1, [{ target := .collected D, args := #[] }], W1, { target := .fn (.func gf) lb, args := #[.func (.yield (D + 1)) #[] #[]] }, W1, gf, #[.func (.yield (D + 1)) #[] #[]] ++ lb, W1, hent, ?_, fun _ _ => trivial, ?_, fun h => (by cases h), ?_⟩
  · simp only [resolve, hg]
    simp [go_sem]
  · simp [invoke, go_sem, eg]
  -- what is said between two rounds: the caller's word, and the record lies ready
  have stay : ∀ {A B : World} {row : Option Nat} (k : Nat) (o : Obj), A.grownBy B row → (∀ r, row = some r → r = Bs) → k ≠ Bs → A.heap[k]? = some o → B.heap[k]? = some o := fun k o hgr hr hk ho =>
    (hgr.block k (Array.getElem?_eq_some_iff.1 ho).1 (fun e => hk (hr k e.symm))).trans ho
  refine (hseq (D + 1) (fun pre W => I pre W ∧ W.heap[D + 1]? = some (.loop (rec .ready)) ∧ W.heap[D]? = some (.deferred (some []))) W1 (hD ▸ hb1)
    (fun s A B row hs hgr hr => ⟨hI s A B row hs.1 hgr (fun r e => .inl (hr r e)), stay _ _ hgr hr (by omega) hs.2.1, stay _ _ hgr hr (by omega) hs.2.2⟩) ?_ ⟨hI1, hL1, hK1⟩).mono ?_
  · rintro pre x W hpre ⟨hi, hl, hk⟩
    have hlt : D + 1 < W.heap.size := (Array.getElem?_eq_some_iff.1 hl).1
    have hy := run_yield (P := P) (args := encs x) hl (by rw [hrec]; exact hps x)
    rw [hrec] at hy
    have hput : ∀ (A : World) (o o' : Obj) (s : List α), A.heap[D + 1]? = some o → o.isCells = false → I s A → I s (A.putObj (D + 1) o') := fun A o o' s ho hoc hs =>
      hI s A _ (some (D + 1)) hs (grownBy_putObj' A (D + 1) o') (fun r e => by cases e; exact .inr ⟨by omega, o, ho, hoc⟩)
    refine ⟨fn, _, assign, body, hy, roundIn_of_wpIn hfn (hassign (D + 1) x W _ ⟨_, run_beginRound hl (by rw [hrec]), ?_⟩)⟩
    generalize hWb : W.putObj (D + 1) (.loop { rec .ready with state := .busy }) = Wb
    have hlb : Wb.heap[D + 1]? = some (.loop { rec .ready with state := .busy }) := by rw [← hWb]; exact World.putObj_heap_same hlt
    have hkb : Wb.heap[D]? = some (.deferred (some [])) := by rw [← hWb]; exact (World.putObj_heap_other (by omega)).trans hk
    have hkp : KeepsAt bs W Wb := fun b hb => by rw [← hWb]; exact World.putObj_heap_other (by have := hbs b hb; omega)
    refine wpIn_mono (hbody (D + 1) pre x Wb hpre (hWb ▸ hput W _ _ _ hl rfl hi)) ?_
    rintro e a3 W3 hp
    cases e with
    | normal =>
      obtain ⟨hk3, hkp3, hi3⟩ := hp
      have hl3 := hk3.same _ _ hlb rfl
      have hend := run_endRound (P := P) none hl3
      refine ⟨_, _, hend, rfl, ⟨hput W3 _ _ _ hl3 rfl hi3, ?_, (World.putObj_heap_other (by omega)).trans (hk3.same _ _ hkb rfl)⟩, hkp.trans (hkp3.trans (fun b hb => World.putObj_heap_other (by have := hbs b hb; omega)))⟩
      rw [World.putObj_heap_same (Array.getElem?_eq_some_iff.1 hl3).1, hrec]
      rfl
    | ret => exact hp.elim
    | exit id => exact hp.elim
    | goto t => exact hp.elim
    | panic ch => exact hp.elim
    | outgrown => exact hp.elim
  · rintro e W2 ⟨⟨v, rfl⟩, hi, hl, hk⟩
    have hend := run_endLoop (P := P) hl (by rw [hrec]; simp)
    rw [hrec] at hend
    exact ⟨none, _, hend, hdone D _ (Nat.le_refl _) (hI _ _ _ (some (D + 1)) hi (grownBy_putObj' W2 (D + 1) _) (fun r e => by cases e; exact .inr ⟨by omega, _, hl, rfl⟩)) ((World.putObj_heap_other (by omega)).trans hk)⟩

/-- 'out = append(out, v)' where out lies in box B, its row from n₁ on, and B lies below n₁: what is owed behind it. -/
theorem boxed_appended {W w1 : World} {n₁ B : Nat} {t e : TypeId} {size : Nat} {v v' : Value} {k m : Nat} {xs ys : List Value} {tmp : Obj}
    (hv : Boxed W B t v) (hB : B < n₁) (hrow : W.ownsRow n₁ e size v k xs) (hn : n₁ ≤ W.heap.size) (hown' : w1.ownsRow n₁ e size v' m ys) (hgrow : (W.alloc tmp).grownBy w1 v.ownBlock) :
    Boxed w1 B t v ∧ Boxed (w1.setCell ⟨B, 0, none⟩ v') B t v' ∧ (w1.setCell ⟨B, 0, none⟩ v').ownsRow n₁ e size v' m ys ∧ KeepsOthers W (w1.setCell ⟨B, 0, none⟩ v') ∧ (∀ b, b < n₁ → b ≠ B → (w1.setCell ⟨B, 0, none⟩ v').heap[b]? = W.heap[b]?) ∧ Below B W (w1.setCell ⟨B, 0, none⟩ v') := by
  have hrb : ∀ g, v.ownBlock = some g → n₁ ≤ g := fun g e' => by
    rcases hrow.2 with ⟨rfl, _⟩ | ⟨g', cap, cur, rfl, hb, _, _⟩
    · simp [Value.ownBlock] at e'
    · obtain rfl : g' = g := by simpa [Value.ownBlock] using e'
      exact hb
  have hv1 : Boxed w1 B t v := (hv.alloc tmp).kept hgrow (fun e' => by have := hrb B e'.symm; omega)
  have same : ∀ b, b < n₁ → w1.heap[b]? = W.heap[b]? := fun b hb =>
    (hgrow.block b (by simp; omega) (fun e' => by have := hrb b e'.symm; omega)).trans (Below.heap_alloc W tmp b (by omega))
  refine ⟨hv1, hv1.set v', ownsRow_setCell_below hown' hB v', ?_, fun b hb hbB => (Below.heap_setCell _ _ _ b hbB).trans (same b hb), ?_⟩
  · refine ((KeepsOthers.alloc W tmp).trans (KeepsOthers.of_grownBy hgrow fun j o ej hj => ?_)).trans (KeepsOthers.setCell _ _ _)
    rcases (hrow.alloc tmp).2 with ⟨rfl, _⟩ | ⟨g, cap, cur, rfl, _, hgb, _⟩
    · simp [Value.ownBlock] at ej
    · obtain rfl : g = j := by simpa [Value.ownBlock] using ej
      rw [hgb] at hj; cases hj; rfl
  · exact (((Below.refl B W).alloc (by omega) tmp).grown hgrow (by simp; omega) (fun j ej => by have := hrb j ej; omega)).setCell (p := ⟨B, 0, none⟩) (Nat.le_refl _) v'
end Go.Proofs.YthnbifkcbeldmaaDoor
