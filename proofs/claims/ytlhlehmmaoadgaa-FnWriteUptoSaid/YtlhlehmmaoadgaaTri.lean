/- The trie of the generic replacer, in memory: what a node stands for (a priority and a value for each key), which blocks it takes, and what stays of it when others turn. -/
import Derived.Below
import Derived.Deep.Draws
import Derived.Laws.OwnMore
import Derived.Lib.Hide
namespace Go.Proofs.Ytlhlehmmaoadgaa
open Go.RowKit Go.Lib
set_option linter.unusedVariables false

/-- what each key stands for: a priority from 1 on, and a value -/
abbrev Keys := List UInt8 → Option (Nat × ByteArray)
def here (p : Nat) (v : ByteArray) : Option (Nat × ByteArray) := if p = 0 then none else some (p, v)
def ptrOf (o : Option Nat) : Value := .pointer (o.map fun c => ⟨c, 0, none⟩)

/-- a node's five cells -/
structure NodeAt (w : World) (b : Nat) (v : ByteArray) (p : Nat) (pr : ByteArray) (nx tb : Value) : Prop where
  c0 : w.cell? ⟨b, 0, none⟩ = some (.string v)
  c1 : w.cell? ⟨b, 1, none⟩ = some (.int .i64 p)
  c2 : w.cell? ⟨b, 2, none⟩ = some (.string pr)
  c3 : w.cell? ⟨b, 3, none⟩ = some nx
  c4 : w.cell? ⟨b, 4, none⟩ = some tb
  fz : ∀ o, w.frozen? ⟨b, o, none⟩ = false

/-- a trie at block b: 'm': what its keys stand for; 'fp': blocks that are its own. 'rb': the replacer's block, 'ts': the size of a table, 'idx': the place of a byte in it -/
inductive Tri (w : World) (rb ts : Nat) (idx : UInt8 → Nat) : Nat → Keys → (Nat → Prop) → Prop
  | leaf {b : Nat} {v : ByteArray} {p : Nat} {m : Keys} {fp : Nat → Prop} (h : NodeAt w b v p ⟨#[]⟩ (.pointer none) (.slice none 0 0))
      (m0 : m [] = here p v) (m1 : ∀ k, k ≠ [] → m k = none) (f : fp b) : Tri w rb ts idx b m fp
  | pre {b c : Nat} {v pr : ByteArray} {p : Nat} {m m' : Keys} {fp fp' : Nat → Prop} (h : NodeAt w b v p pr (.pointer (some ⟨c, 0, none⟩)) (.slice none 0 0)) (hp : 0 < pr.size) (hl : pr.size < 4611686018427387904) (hu : ∀ x ∈ pr.data.toList, idx x < ts)
      (ht : Tri w rb ts idx c m' fp') (m0 : m [] = here p v) (m1 : ∀ k, m (pr.data.toList ++ k) = m' k) (m2 : ∀ k, k ≠ [] → ¬ pr.data.toList <+: k → m k = none)
      (f : fp b) (fs : ∀ x, fp' x → fp x) (fd : ¬ fp' b) : Tri w rb ts idx b m fp
  | tab {b tb : Nat} {v : ByteArray} {p : Nat} {m : Keys} {kid : Nat → Option Nat} {ms : Nat → Keys} {fp : Nat → Prop} {fps : Nat → Nat → Prop}
      (h : NodeAt w b v p ⟨#[]⟩ (.pointer none) (.slice (some ⟨tb, 0, none⟩) ts ts)) (hc : ∀ i, i < ts → w.cell? ⟨tb, i, none⟩ = some (ptrOf (kid i))) (hz : ∀ o, w.frozen? ⟨tb, o, none⟩ = false)
      (ht : ∀ i c, i < ts → kid i = some c → Tri w rb ts idx c (ms i) (fps i)) (hn : ∀ i, i < ts → kid i = none → (∀ k, ms i k = none) ∧ ∀ x, ¬ fps i x)
      (m0 : m [] = here p v) (m1 : ∀ x k, m (x :: k) = if idx x < ts then ms (idx x) k else none)
      (f : fp b) (ft : fp tb) (fs : ∀ i x, i < ts → fps i x → fp x) (fd : ∀ i, i < ts → ¬ fps i b ∧ ¬ fps i tb) (fdd : ∀ i j x, i < ts → j < ts → i ≠ j → fps i x → ¬ fps j x) (hbt : b ≠ tb) (htr : tb ≠ rb) : Tri w rb ts idx b m fp

/-- what two worlds share of a block -/
def SameBlk (w w' : World) (x : Nat) : Prop := ∀ o, w'.cell? ⟨x, o, none⟩ = w.cell? ⟨x, o, none⟩ ∧ w'.frozen? ⟨x, o, none⟩ = w.frozen? ⟨x, o, none⟩
theorem SameBlk.of_block {w w' : World} {x : Nat} (h : w'.heap[x]? = w.heap[x]?) : SameBlk w w' x := fun o =>
  ⟨World.cell?_of_block (a := ⟨x, o, none⟩) h, World.frozen?_of_block (a := ⟨x, o, none⟩) h⟩
theorem NodeAt.same {w w' : World} {b : Nat} {v : ByteArray} {p : Nat} {pr : ByteArray} {nx tb : Value} (h : NodeAt w b v p pr nx tb) (hs : SameBlk w w' b) : NodeAt w' b v p pr nx tb :=
  ⟨(hs 0).1.trans h.c0, (hs 1).1.trans h.c1, (hs 2).1.trans h.c2, (hs 3).1.trans h.c3, (hs 4).1.trans h.c4, fun o => (hs o).2.trans (h.fz o)⟩
theorem Tri.same {w w' : World} {rb ts : Nat} {idx : UInt8 → Nat} {b : Nat} {m : Keys} {fp : Nat → Prop} (h : Tri w rb ts idx b m fp) : (∀ x, fp x → SameBlk w w' x) → Tri w' rb ts idx b m fp := by
  induction h with
  | leaf h m0 m1 f => exact fun hs => .leaf (h.same (hs _ f)) m0 m1 f
  | pre h hp hl hu ht m0 m1 m2 f fs fd ih => exact fun hs => .pre (h.same (hs _ f)) hp hl hu (ih fun x hx => hs x (fs x hx)) m0 m1 m2 f fs fd
  | tab h hc hz ht hn m0 m1 f ft fs fd fdd hbt htr ih =>
    exact fun hs => .tab (h.same (hs _ f)) (fun i hi => ((hs _ ft) i).1.trans (hc i hi)) (fun o => ((hs _ ft) o).2.trans (hz o)) (fun i c hi hk => ih i c hi hk fun x hx => hs x (fs i x hi hx)) hn m0 m1 f ft fs fd fdd hbt htr
theorem Tri.more {w : World} {rb ts : Nat} {idx : UInt8 → Nat} {b : Nat} {m : Keys} {fp fp2 : Nat → Prop} (h : Tri w rb ts idx b m fp) (hf : ∀ x, fp x → fp2 x) : Tri w rb ts idx b m fp2 := by
  cases h with
  | leaf h m0 m1 f => exact .leaf h m0 m1 (hf _ f)
  | pre h hp hl hu ht m0 m1 m2 f fs fd => exact .pre h hp hl hu ht m0 m1 m2 (hf _ f) (fun x hx => hf x (fs x hx)) fd
  | tab h hc hz ht hn m0 m1 f ft fs fd fdd hbt htr => exact .tab h hc hz ht hn m0 m1 (hf _ f) (hf _ ft) (fun i x hi hx => hf x (fs i x hi hx)) fd fdd hbt htr
theorem Tri.congr {w : World} {rb ts : Nat} {idx : UInt8 → Nat} {b : Nat} {m m2 : Keys} {fp : Nat → Prop} (h : Tri w rb ts idx b m fp) (hm : ∀ k, m k = m2 k) : Tri w rb ts idx b m2 fp := by
  obtain rfl : m = m2 := funext hm
  exact h
theorem Tri.own {w : World} {rb ts : Nat} {idx : UInt8 → Nat} {b : Nat} {m : Keys} {fp : Nat → Prop} (h : Tri w rb ts idx b m fp) : fp b := by
  cases h <;> assumption

/-- a plain block of cells -/
def Plain (w : World) (x : Nat) : Prop := ∃ cs t, w.heap[x]? = some (.cells cs t (0, 0))
theorem Plain.set {w : World} {x : Nat} (h : Plain w x) (a : Addr) (u : Value) : Plain (w.setCell a u) x := by
  obtain ⟨cs, t, h⟩ := h
  by_cases e : x = a.block
  · subst e
    by_cases hs : a.spot.isSome = true
    · exact ⟨cs, t, by simp [World.setCell, Array.getElem?_modify, h, hs]⟩
    · exact ⟨cs.setIfInBounds a.off u, t, by simp [World.setCell, Array.getElem?_modify, h, hs]⟩
  · exact ⟨cs, t, (Below.heap_setCell w a u x e).trans h⟩
theorem Plain.alloc {w : World} {x : Nat} {o : Obj} (ho : ∃ cs t, o = .cells cs t (0, 0)) (hx : x < (w.alloc o).heap.size) (h : x < w.heap.size → Plain w x) : Plain (w.alloc o) x := by
  by_cases e : x < w.heap.size
  · obtain ⟨cs, t, h⟩ := h e
    exact ⟨cs, t, (Below.heap_alloc w o x e).trans h⟩
  · obtain ⟨cs, t, rfl⟩ := ho
    have : x = w.heap.size := by simp at hx; omega
    subst this
    exact ⟨cs, t, heap_alloc_new w _⟩
/-- what a step may have turned: blocks of 'fp' (in the replacer's block the first five cells alone), and new ones -/
structure Chg (w w' : World) (rb : Nat) (fp : Nat → Prop) : Prop where
  os : w'.os = w.os
  tape : w'.tape = w.tape
  output : w'.output = w.output
  size : w.heap.size ≤ w'.heap.size
  block : ∀ x, x < w.heap.size → ¬ fp x → w'.heap[x]? = w.heap[x]?
  root : ∀ o, 5 ≤ o → w'.cell? ⟨rb, o, none⟩ = w.cell? ⟨rb, o, none⟩
  frozen : ∀ x o, x < w.heap.size → w'.frozen? ⟨x, o, none⟩ = w.frozen? ⟨x, o, none⟩
  plain : ∀ x, x < w'.heap.size → (x < w.heap.size → Plain w x) → Plain w' x

theorem Chg.refl (w : World) (rb : Nat) (fp : Nat → Prop) : Chg w w rb fp := ⟨rfl, rfl, rfl, Nat.le_refl _, fun _ _ _ => rfl, fun _ _ => rfl, fun _ _ _ => rfl, fun _ hx h => h hx⟩
theorem Chg.trans {a b c : World} {rb : Nat} {fp fp2 : Nat → Prop} (h : Chg a b rb fp) (k : Chg b c rb fp2) (hf : ∀ x, fp2 x → fp x ∨ a.heap.size ≤ x) : Chg a c rb fp :=
  ⟨k.os.trans h.os, k.tape.trans h.tape, k.output.trans h.output, Nat.le_trans h.size k.size,
    fun x hx hn => (k.block x (Nat.lt_of_lt_of_le hx h.size) (fun h2 => by rcases hf x h2 with h3 | h3; · exact hn h3
                                                                           · omega)).trans (h.block x hx hn),
    fun o ho => (k.root o ho).trans (h.root o ho), fun x o hx => (k.frozen x o (Nat.lt_of_lt_of_le hx h.size)).trans (h.frozen x o hx), fun x hx hp => k.plain x hx (fun hx2 => h.plain x hx2 hp)⟩
theorem Chg.drew {a w : World} {rb : Nat} {fp : Nat → Prop} (h : Chg a w rb fp) : Chg a w.drew rb fp := ⟨h.os, h.tape, h.output, h.size, h.block, h.root, h.frozen, h.plain⟩
theorem Chg.drewN {a w : World} {rb : Nat} {fp : Nat → Prop} (h : Chg a w rb fp) (n : Nat) : Chg a (w.drewN n) rb fp := ⟨h.os, h.tape, h.output, h.size, h.block, h.root, h.frozen, h.plain⟩
theorem cell_alloc_lt (w : World) (o : Obj) (a : Addr) (h : a.block < w.heap.size) : (w.alloc o).cell? a = w.cell? a := World.cell?_of_block (Below.heap_alloc w o a.block h)
theorem frozen_alloc_lt (w : World) (o : Obj) (a : Addr) (h : a.block < w.heap.size) : (w.alloc o).frozen? a = w.frozen? a := World.frozen?_of_block (Below.heap_alloc w o a.block h)
theorem Chg.alloc {a w : World} {rb : Nat} {fp : Nat → Prop} (h : Chg a w rb fp) (hr : rb < w.heap.size) (o : Obj) (ho : ∃ cs t, o = .cells cs t (0, 0) := by exact ⟨_, _, rfl⟩) : Chg a (w.alloc o) rb fp :=
  ⟨h.os, h.tape, h.output, Nat.le_trans h.size (by simp), fun x hx hn => (Below.heap_alloc w o x (Nat.lt_of_lt_of_le hx h.size)).trans (h.block x hx hn),
    fun o' ho => (cell_alloc_lt w o ⟨rb, o', none⟩ hr).trans (h.root o' ho), fun x o' hx => (frozen_alloc_lt w o ⟨x, o', none⟩ (Nat.lt_of_lt_of_le hx h.size)).trans (h.frozen x o' hx), fun x hx hp => Plain.alloc ho hx (fun hx2 => h.plain x hx2 hp)⟩
theorem Chg.setCell {a w : World} {rb : Nat} {fp : Nat → Prop} (h : Chg a w rb fp) {b o : Nat} (hb : fp b ∨ a.heap.size ≤ b) (hr : b = rb → o < 5) (u : Value) : Chg a (w.setCell ⟨b, o, none⟩ u) rb fp := by
  refine ⟨h.os, h.tape, h.output, by simpa [World.setCell] using h.size, fun x hx hn => (Below.heap_setCell w ⟨b, o, none⟩ u x (fun e => ?_)).trans (h.block x hx hn), fun o' ho => ?_, fun x o' hx => ?_, fun x hx hp => ?_⟩
  · have e : x = b := e
    subst e
    rcases hb with hb | hb
    · exact hn hb
    · omega
  · rw [World.cell?_setCell_other _ _ _ _ (fun e => by injection e with e1 e2; have := hr e1; omega)]
    exact h.root o' ho
  · rw [show (w.setCell ⟨b, o, none⟩ u).frozen? ⟨x, o', none⟩ = w.frozen? ⟨x, o', none⟩ by simp]
    exact h.frozen x o' hx
  · exact (h.plain x (by simpa [World.setCell] using hx) hp).set _ _
theorem Chg.same {a w : World} {rb : Nat} {fp : Nat → Prop} (h : Chg a w rb fp) {x : Nat} (hx : x < a.heap.size) (hn : ¬ fp x) : SameBlk a w x := SameBlk.of_block (h.block x hx hn)
theorem Chg.below {a w : World} {rb : Nat} {fp : Nat → Prop} (h : Chg a w rb fp) {B : Nat} (hB : ∀ x, fp x → B ≤ x) (hs : B ≤ a.heap.size) : Below B a w :=
  ⟨h.os, h.tape, h.output, h.size, fun k hk => h.block k (by omega) (fun hf => by have := hB k hf; omega)⟩
theorem Chg.weak {a w : World} {rb : Nat} {fp fp2 : Nat → Prop} (h : Chg a w rb fp) (hf : ∀ x, fp x → fp2 x) : Chg a w rb fp2 :=
  ⟨h.os, h.tape, h.output, h.size, fun x hx hn => h.block x hx (fun h' => hn (hf x h')), h.root, h.frozen, h.plain⟩

/-- the replacer's own cells: the size of a table, and the places of the bytes -/
structure RepAt (w : World) (rb ts : Nat) (idx : UInt8 → Nat) : Prop where
  lt : rb < w.heap.size
  size : w.cell? ⟨rb, 5, none⟩ = some (.int .i64 ts)
  map : ∀ x : UInt8, w.cell? ⟨rb, 6 + x.toNat, none⟩ = some (.int .u8 (idx x))
  le : ts ≤ 256
  inj : ∀ x y, idx x < ts → idx x = idx y → x = y
  room : ∀ x, idx x ≤ 255
theorem RepAt.chg {w w' : World} {rb ts : Nat} {idx : UInt8 → Nat} {fp : Nat → Prop} (h : RepAt w rb ts idx) (c : Chg w w' rb fp) : RepAt w' rb ts idx :=
  ⟨Nat.lt_of_lt_of_le h.lt c.size, (c.root 5 (by omega)).trans h.size, fun x => (c.root _ (by omega)).trans (h.map x), h.le, h.inj, h.room⟩

/-- one key more: the first one counts -/
def addK (m : Keys) (key : List UInt8) (p : Nat) (v : ByteArray) : Keys := fun k => if k = key then (match m key with | none => some (p, v) | some y => some y) else m k

/-- a node with a table keeps it -/
def TabKept (w w' : World) (b : Nat) : Prop := ∀ g n c, w.cell? ⟨b, 4, none⟩ = some (.slice (some g) n c) → w'.cell? ⟨b, 4, none⟩ = some (.slice (some g) n c)
theorem TabKept.none {w w' : World} {b : Nat} (h : w.cell? ⟨b, 4, none⟩ = some (.slice none 0 0)) : TabKept w w' b := fun g n c hg => by rw [h] at hg; cases hg
/-- what 'add' leaves -/
def AddPost (w : World) (rb ts : Nat) (idx : UInt8 → Nat) (b : Nat) (m : Keys) (fp : Nat → Prop) (key : List UInt8) (p : Nat) (v : ByteArray) (w' : World) : Prop :=
  ∃ fp', Tri w' rb ts idx b (addK m key p v) fp' ∧ (∀ x, fp' x → (fp x ∨ w.heap.size ≤ x) ∧ x < w'.heap.size) ∧ Chg w w' rb fp ∧ TabKept w w' b
end Go.Proofs.Ytlhlehmmaoadgaa
