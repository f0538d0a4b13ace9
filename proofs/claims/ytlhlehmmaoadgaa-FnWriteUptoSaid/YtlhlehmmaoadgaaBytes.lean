/- Bytes in memory: 'Row w b o s': from offset o on, block b holds the bytes of s. Contract of slices.Clone at []byte: a new row of the same bytes, and nothing that was there has turned. Condition: fewer than 2^47 bytes. -/
import Derived.Test.YtlhlehmmaoadgaaRows
import Derived.WalkKit
import Derived.WalkSpells
import Derived.WalkLawsBesides
import Derived.WalkSmall
import Derived.Below
import Derived.BigCall
import Derived.BigGuard
import Derived.Lib.Walk
import Derived.Lib.Hide
import Derived.Lib.Strings
import Derived.Lib.SlBytesConst
import Derived.Lib.IndexBytes
import Derived.Lib.RabinKarpLaws
import Derived.Laws.IdiomStrings
import Derived.OwnWalk
import Derived.KernelRfl
import Derived.Outline
namespace Go.Proofs.Ytlhlehmmaoadgaa
open Go.RowKit Go.Lib

def Row (w : World) (b o : Nat) (s : ByteArray) : Prop := ∀ i (h : i < s.size), w.cell? ⟨b, o + i, none⟩ = some (.int .u8 (s[i].toNat : Int))

theorem Row.at {w : World} {b o : Nat} {s : ByteArray} (h : Row w b o s) (i : Nat) (hi : i < s.size) : w.cell? ⟨b, o + i, none⟩ = some (.int .u8 (s[i].toNat : Int)) := h i hi
theorem Row.drew {w : World} {b o : Nat} {s : ByteArray} (h : Row w b o s) : Row w.drew b o s := h
theorem Row.drewN {w : World} {b o : Nat} {s : ByteArray} (h : Row w b o s) (n : Nat) : Row (w.drewN n) b o s := h
theorem cell_lt {w : World} {a : Addr} {v : Value} (h : w.cell? a = some v) : a.block < w.heap.size := by
  rcases Nat.lt_or_ge a.block w.heap.size with h' | h'
  · exact h'
  · simp [World.cell?, Array.getElem?_eq_none h'] at h
theorem Row.alloc {w : World} {b o : Nat} {s : ByteArray} (h : Row w b o s) (ob : Obj) : Row (w.alloc ob) b o s := fun i hi => Lib.cell?_alloc_marked ob (h i hi)
theorem Row.below {w w' : World} {b o : Nat} {s : ByteArray} {B : Nat} (h : Row w b o s) (hb : Below B w w') (hB : b < B) : Row w' b o s := fun i hi => by
  rw [hb.cell (p := ⟨b, o + i, none⟩) hB]; exact h i hi
theorem Row.later {w w' : World} {b o : Nat} {s : ByteArray} (h : Row w b o s) (hb : Below w.heap.size w w') : Row w' b o s := fun i hi => by
  rw [hb.cell (p := ⟨b, o + i, none⟩) (cell_lt (h i hi))]; exact h i hi
theorem Row.new (w : World) (s : ByteArray) (cap : Nat) (e : TypeId) (fr : Nat × Nat) : Row (w.alloc (.cells (bytesRow s cap) e fr)) w.heap.size 0 s := fun i hi => by
  rw [Nat.zero_add, World.cell?_alloc_mark, bytesRow_at s cap i (by simpa using hi)]
  rfl
theorem Row.const (w : World) (s : ByteArray) (C : Array Value) (hC : C = bytesRow s s.size) (e : TypeId) (fr : Nat × Nat) : Row (w.alloc (.cells C e fr)) w.heap.size 0 s := by
  subst hC; exact Row.new w s s.size e fr
theorem Row.const1 (w : World) (s : ByteArray) (C : Array Value) (hC : C = bytesRow s s.size) (e : TypeId) (fr : Nat × Nat) (b : Nat) (hb : w.heap.size = b) : Row (w.alloc (.cells C e fr)) b 0 s := by
  subst hb; exact Row.const w s C hC e fr
theorem Row.sub {w : World} {b o : Nat} {s : ByteArray} (h : Row w b o s) (i j : Nat) (hj : j ≤ s.size) : Row w b (o + i) (s.extract i j) := fun k hk => by
  have hk2 : i + k < s.size := by simp at hk; omega
  rw [show o + i + k = o + (i + k) by omega, h (i + k) hk2]
  simp [ByteArray.getElem_extract]

/-- a plain block of cells, none of them frozen -/
def Blk (w : World) (g : Nat) : Prop := ∃ cur t, w.heap[g]? = some (.cells cur t (0, 0))
theorem Blk.later {w w' : World} {g B : Nat} (h : Blk w g) (hb : Below B w w') (hB : g < B) : Blk w' g := by
  obtain ⟨cur, t, h⟩ := h
  exact ⟨cur, t, by rw [hb.block g hB]; exact h⟩
theorem Blk.drewN {w : World} {g : Nat} (h : Blk w g) (n : Nat) : Blk (w.drewN n) g := h

/-- '[]byte(s)' of a text -/
theorem hconv (w : World) (s : ByteArray) : (convert 9 32 (.string s)).run Try.prog w = .ok (.slice (some ⟨w.heap.size, 0, none⟩) s.size (grownCap w s.size 0 5))
      (w.alloc (.cells (bytesRow s (grownCap w s.size 0 5)) 5 ((bytesRow s (grownCap w s.size 0 5)).size, (bytesRow s (grownCap w s.size 0 5)).size + 1))).drew :=
  run_bytes_of_string w 9 32 5 s Try.underlying9 Try.underlying32 Try.underlying5

theorem Row.new1 (w : World) (s : ByteArray) (cap : Nat) (e : TypeId) (fr : Nat × Nat) (b : Nat) (hb : w.heap.size = b) : Row (w.alloc (.cells (bytesRow s cap) e fr)) b 0 s := by
  subst hb; exact Row.new w s cap e fr
theorem below_conv1 (v : World) (o1 : Obj) (w3 : World) (hb : Below (v.alloc o1).drew.heap.size (v.alloc o1).drew w3) : Below v.heap.size v w3 :=
  ((Below.refl _ v).alloc (Nat.le_refl _) o1).drew.trans (hb.mono (by simp))
theorem below_conv2 (v : World) (o1 o2 : Obj) (w3 : World) (hb : Below ((v.alloc o1).alloc o2).drew.drew.heap.size ((v.alloc o1).alloc o2).drew.drew w3) : Below v.heap.size v w3 :=
  (((Below.refl _ v).alloc (Nat.le_refl _) o1).alloc (by simp) o2).drew.drew.trans (hb.mono (by simp; omega))
theorem below_const2 (v : World) (o1 o2 : Obj) (w3 : World) (hb : Below ((v.alloc o1).alloc o2).heap.size ((v.alloc o1).alloc o2) w3) : Below v.heap.size v w3 :=
  (((Below.refl _ v).alloc (Nat.le_refl _) o1).alloc (by simp) o2).trans (hb.mono (by simp; omega))

/-- '[]byte("..")' of a constant, as the first and as the second block of its statement -/
theorem kc1 (w : World) (C : Array Value) (n c : Nat) : (convert 32 32 (.slice (some ⟨w.heap.size, 0, none⟩) n c)).run Try.prog (w.alloc (.cells C 5)) = .ok (.slice (some ⟨w.heap.size, 0, none⟩) n c) (w.alloc (.cells C 5 (C.size, C.size + 1))) :=
  Lib.run_convert_bytes_const (P := Try.prog) w 32 5 C n c Try.underlying32 Try.underlying5
theorem kc2 (w : World) (o : Obj) (C : Array Value) (n c : Nat) : (convert 32 32 (.slice (some ⟨w.heap.size + 1, 0, none⟩) n c)).run Try.prog ((w.alloc o).alloc (.cells C 5)) = .ok (.slice (some ⟨w.heap.size + 1, 0, none⟩) n c) ((w.alloc o).alloc (.cells C 5 (C.size, C.size + 1))) := by
  have := Lib.run_convert_bytes_const (P := Try.prog) (w.alloc o) 32 5 C n c Try.underlying32 Try.underlying5
  have e : (w.alloc o).heap.size = w.heap.size + 1 := by simp
  rw [e] at this
  exact this

/-- 'string(b)' of bytes in a row -/
theorem hback (w : World) (b o cap : Nat) (s : ByteArray) (h : Row w b o s) : (convert 32 9 (.slice (some ⟨b, o, none⟩) s.size cap)).run Try.prog w = .ok (.string s) w := by
  have := run_convert_bytes_back (P := Try.prog) w 32 9 5 ⟨b, o, none⟩ cap s.data.toList Try.underlying32 Try.underlying5 Try.underlying9 (fun j hj => by
    have hj2 : j < s.size := by simpa using hj
    have := h j hj2
    rw [show (⟨b, o, none⟩ : Addr).add j = ⟨b, o + j, none⟩ by simp [Addr.add], this, byte_at' s j hj2 hj])
  rw [Lib.mk_data] at this
  simpa using this

theorem info8 : (Try.prog.info? 5).map (fun i => (i.zero, i.size, i.bytes)) = some (some (.int .u8 0), 1, 1) := by kernel_rfl

end Go.Proofs.Ytlhlehmmaoadgaa
