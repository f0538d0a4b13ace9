/- What a slot of a drawn region holds: texts, rows of bytes, constants. -/
import Derived.Test.YthnbifkcbeldmaaDoorRetR
import Derived.Test.YthnbifkcbeldmaaDoorRegInv
import Derived.Shelf.Abstract
namespace Go.Proofs.YthnbifkcbeldmaaDoor
open Go Go.RowKit Go.Lib Go.Shelf
set_option linter.unusedVariables false
theorem chainB {w W w' : World} (h : Below w.heap.size w W) (h2 : Below W.heap.size W w') : Below w.heap.size w w' := h.trans (h2.mono h.size)
theorem Row.stp {w w' : World} {b o : Nat} {s : ByteArray} (h : Row w b o s) (hs : Stp w w') : Row w' b o s := fun i hi => hs.cell (h i hi)
theorem RowAt.stp {w w' : World} {p : Option Addr} {cap : Nat} {R : ByteArray} (h : RowAt w p cap R) (hs : Stp w w') : RowAt w' p cap R :=
  ⟨h.1, fun a ha => by obtain ⟨b, o, h1, h2⟩ := h.2 a ha; exact ⟨b, o, h1, h2.stp hs⟩⟩
theorem row_cells {w : World} {g : Nat} {C : ByteArray} {e : TypeId} {fr : Nat × Nat} (h : w.heap[g]? = some (.cells (bytesRow C C.size) e fr)) : Row w g 0 C := fun i hi => by
  have e : w.cell? ⟨g, i, none⟩ = (bytesRow C C.size)[i]? := by simp [World.cell?, h]
  rw [Nat.zero_add, e, bytesRow_at C C.size i hi]
  rfl
theorem heap_new (w : World) (o : Obj) : (w.alloc o).heap[w.heap.size]? = some o := by
  show (w.heap.push o)[w.heap.size]? = some o
  simp
def RowV (C : ByteArray) (v : Value) (w : World) : Prop := ∃ g o c, v = .slice (some ⟨g, o, none⟩) C.size c ∧ Row w g o C
def RetV (R : ByteArray) (v : Value) (w : World) : Prop := ∃ p cap, v = .slice p R.size cap ∧ RowAt w p cap R
def CstV (B : Nat) (C : ByteArray) (v : Value) (w : World) : Prop := ∃ g fr, v = .slice (some ⟨g, 0, none⟩) C.size C.size ∧ w.heap[g]? = some (.cells (bytesRow C C.size) 5 fr) ∧ B ≤ g
/-- what a slot holds -/
inductive Kd
  | str (s : ByteArray) | int (n : Int) | row (C : ByteArray) | ret (R : ByteArray) | cst (C : ByteArray) | tru | any
def kS (B : Nat) (k : Kd) (v : Value) (w : World) : Prop :=
  match k with
  | .str s => v = .string s
  | .int n => v = .int .i64 n
  | .row C => RowV C v w
  | .ret R => RetV R v w
  | .cst C => CstV B C v w
  | .tru => v = .bool true
  | .any => True
theorem kS_stp {B : Nat} {k : Kd} {v : Value} {w w' : World} (hs : Stp w w') (h : kS B k v w) : kS B k v w' := by
  cases k with
  | row C => obtain ⟨g, o, c, h1, h2⟩ := h; exact ⟨g, o, c, h1, h2.stp hs⟩
  | ret R => obtain ⟨p, cap, h1, h2⟩ := h; exact ⟨p, cap, h1, h2.stp hs⟩
  | cst C => obtain ⟨g, fr, h1, h2, h3⟩ := h; obtain ⟨fr', h4⟩ := hs _ _ _ _ h2; exact ⟨g, fr', h1, h4, h3⟩
  | _ => exact h
def C1 : ByteArray := ⟨#[97, 98]⟩
def C2 : ByteArray := ⟨#[98]⟩
def C3 : ByteArray := ⟨#[99]⟩
def CR : ByteArray := ⟨#[97, 99]⟩
def CA : ByteArray := ⟨#[97]⟩
end Go.Proofs.YthnbifkcbeldmaaDoor
