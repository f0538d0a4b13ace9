/- (*byteReplacer).Replace: each byte by the table. -/
import Derived.Test.YtlhlehmmaoadgaaBytes
import Derived.Test.YtlhlehmmaoadgaaFits
import Derived.Lib.SliceRun
namespace Go.Proofs.Ytlhlehmmaoadgaa
open Go.RowKit Go.Lib
set_option linter.unusedVariables false

/-- a text under construction in a row of cells: the first i bytes are turned -/
def MapRow (w : World) (g : Nat) (f : UInt8 → UInt8) (s : ByteArray) (i : Nat) : Prop :=
  (∀ k (h : k < s.size), w.cell? ⟨g, k, none⟩ = some (.int .u8 ((if k < i then f s[k] else s[k]).toNat : Int))) ∧ ∀ k, k < s.size → w.frozen? ⟨g, k, none⟩ = false
theorem MapRow.skip {w : World} {g : Nat} {f : UInt8 → UInt8} {s : ByteArray} {i : Nat} (h : MapRow w g f s i) (hi : i < s.size) (he : f s[i] = s[i]) : MapRow w g f s (i + 1) := by
  refine ⟨fun k hk => ?_, h.2⟩
  rw [h.1 k hk]
  by_cases e : k = i
  · subst e; rw [if_neg (by omega), if_pos (by omega), he]
  · by_cases h2 : k < i
    · rw [if_pos h2, if_pos (by omega)]
    · rw [if_neg h2, if_neg (by omega)]
theorem MapRow.put {w : World} {g : Nat} {f : UInt8 → UInt8} {s : ByteArray} {i : Nat} (h : MapRow w g f s i) (hi : i < s.size) : MapRow (w.setCell ⟨g, i, none⟩ (.int .u8 ((f s[i]).toNat : Int))) g f s (i + 1) := by
  refine ⟨fun k hk => ?_, fun k hk => by simp [h.2 k hk]⟩
  by_cases e : k = i
  · subst e
    rw [World.cell?_setCell_same _ _ _ (h.1 k hk), if_pos (by omega)]
  · rw [World.cell?_setCell_other _ _ _ _ (by intro e2; injection e2; omega), h.1 k hk]
    by_cases h2 : k < i
    · rw [if_pos h2, if_pos (by omega)]
    · rw [if_neg h2, if_neg (by omega)]
def mapBytes (f : UInt8 → UInt8) (s : ByteArray) : ByteArray := ⟨(s.data.toList.map f).toArray⟩
theorem mapBytes_size (f : UInt8 → UInt8) (s : ByteArray) : (mapBytes f s).size = s.size := by
  show (s.data.toList.map f).toArray.size = s.data.size
  simp
theorem mapBytes_get (f : UInt8 → UInt8) (s : ByteArray) (k : Nat) (h : k < (mapBytes f s).size) (h2 : k < s.size) : (mapBytes f s)[k] = f s[k] := by
  have h3 : k < (s.data.toList.map f).toArray.size := by simpa using h2
  exact Eq.trans (show (mapBytes f s)[k] = (s.data.toList.map f).toArray[k]'h3 from rfl) (by simp; rfl)
theorem MapRow.row {w : World} {g : Nat} {f : UInt8 → UInt8} {s : ByteArray} (h : MapRow w g f s s.size) : Row w g 0 (mapBytes f s) := fun k hk => by
  have h2 : k < s.size := by rw [mapBytes_size] at hk; exact hk
  rw [Nat.zero_add, h.1 k h2, if_pos h2, mapBytes_get f s k hk h2]
theorem mapBytes_same (f : UInt8 → UInt8) (s : ByteArray) (h : ∀ k (h : k < s.size), f s[k] = s[k]) : mapBytes f s = s := by
  unfold mapBytes
  have : s.data.toList.map f = s.data.toList := by
    apply List.ext_getElem
    · simp
    · intro k h1 h2
      rw [List.getElem_map]
      have hk : k < s.size := by simpa using h2
      exact h k hk
  rw [this]
/-- '[]byte(s)' begins such a row -/
theorem MapRow.conv (w : World) (f : UInt8 → UInt8) (s : ByteArray) (cap : Nat) (e : TypeId) (hc : s.size ≤ cap) (i : Nat) (hk : ∀ k (h : k < s.size), k < i → f s[k] = s[k]) :
    MapRow (w.alloc (.cells (bytesRow s cap) e ((bytesRow s cap).size, (bytesRow s cap).size + 1))).drew w.heap.size f s i := by
  refine ⟨fun k h => ?_, fun k h => ?_⟩
  · have := Row.new w s cap e ((bytesRow s cap).size, (bytesRow s cap).size + 1) k h
    rw [Nat.zero_add] at this
    rw [show (w.alloc (.cells (bytesRow s cap) e ((bytesRow s cap).size, (bytesRow s cap).size + 1))).drew.cell? ⟨w.heap.size, k, none⟩ = (w.alloc (.cells (bytesRow s cap) e ((bytesRow s cap).size, (bytesRow s cap).size + 1))).cell? ⟨w.heap.size, k, none⟩ from rfl, this]
    by_cases h2 : k < i
    · rw [if_pos h2, hk k h h2]
    · rw [if_neg h2]
  · rw [show (w.alloc (.cells (bytesRow s cap) e ((bytesRow s cap).size, (bytesRow s cap).size + 1))).drew.frozen? ⟨w.heap.size, k, none⟩ = (w.alloc (.cells (bytesRow s cap) e ((bytesRow s cap).size, (bytesRow s cap).size + 1))).frozen? ⟨w.heap.size, k, none⟩ from rfl, World.frozen?_alloc_mark]
    have h3 : s.size ≤ (bytesRow s cap).size := by
      unfold bytesRow
      rw [Array.size_append, Array.size_map]
      exact Nat.le_add_right _ _
    rw [decide_eq_false (by omega), Bool.false_and]

/-- the table of a byteReplacer -/
def TabAt (w : World) (rb : Nat) (f : UInt8 → UInt8) : Prop := ∀ c : UInt8, w.cell? ⟨rb, c.toNat, none⟩ = some (.int .u8 ((f c).toNat : Int))
theorem TabAt.below {w w' : World} {rb B : Nat} {f : UInt8 → UInt8} (h : TabAt w rb f) (hb : Below B w w') (hB : rb < B) : TabAt w' rb f := fun c => by
  rw [hb.cell (p := ⟨rb, c.toNat, none⟩) hB]; exact h c
def BrRel (w : World) (f : UInt8 → UInt8) (s : ByteArray) (vb vi : Value) (wr : World) : Prop :=
  ∃ i : Nat, vi = .int .i64 i ∧ i ≤ s.size ∧ Below w.heap.size w wr ∧
    ((vb = .slice none 0 0 ∧ ∀ k (h : k < s.size), k < i → f s[k] = s[k]) ∨ (∃ g cap : Nat, vb = .slice (some ⟨g, 0, none⟩) s.size cap ∧ w.heap.size ≤ g ∧ MapRow wr g f s i))
set_option maxHeartbeats 1600000 in
set_option maxRecDepth 100000 in
theorem byteRepl (rb : Nat) (f : UInt8 → UInt8) (s : ByteArray) (w : World) (hs : s.size < 4611686018427387904) (hT : TabAt w rb f) :
    Calls Try.prog 54 #[.pointer (some ⟨rb, 0, none⟩), .string s] w fun e w' => e = .returned (.string (mapBytes f s)) ∧ Below w.heap.size w w' := by
  have q44 : ∀ (w : World) (a : Option Addr) (n c n' c' : Nat), (binOp .eql 32 (.slice a n c) (.slice none n' c')).run Try.prog w = .ok (.bool a.isNone) w := fun w a n c n' c' => Lib.run_eql_slice_nil w _ _ a n c n' c' Try.underlying32
  have hcv := hconv
  have HT := Lib.hid hT
  clear hT
  go_enter Try.func54, Try.ntmps54
  go_wp2
  go_loopw [5, 6] (BrRel w f s) (fun _ i _ => s.size - (RowKit.intOf i).toNat)
  case atStart => exact ⟨0, rfl, Nat.zero_le _, Below.refl _ _, .inl ⟨rfl, fun k _ h => by omega⟩⟩
  case round =>
    obtain ⟨i, rfl, hi, B, hb⟩ := hrel
    by_cases hlt : i < s.size
    · have i1 : (i : Int) < s.size := by omega
      have hc := HT.out s[i]
      have hrb : rb < w.heap.size := cell_lt hc
      rw [← B.cell (p := ⟨rb, s[i].toNat, none⟩) hrb] at hc
      have i5 : (s[i].toNat : Int) < 256 := by have := s[i].toNat_lt; omega
      by_cases he : f s[i] = s[i]
      · have he' : (((f s[i]).toNat : Int) != (s[i].toNat : Int)) = false := by rw [he]; simp
        go_wp2
        go_roundw
        case rel =>
          refine ⟨i + 1, by go_num, by omega, B, ?_⟩
          rcases hb with ⟨rfl, h⟩ | ⟨g, cap, rfl, hg, hm⟩
          · refine .inl ⟨rfl, fun k hk h2 => ?_⟩
            by_cases e : k = i
            · subst e; exact he
            · exact h k hk (by omega)
          · exact .inr ⟨g, cap, rfl, hg, hm.skip hlt he⟩
        case measure => simp [RowKit.intOf]; omega
      · have he' : (((f s[i]).toNat : Int) != (s[i].toNat : Int)) = true := by
          rw [bne_iff_ne]; intro e; exact he (UInt8.toNat_inj.1 (by omega))
        rcases hb with ⟨rfl, h⟩ | ⟨g, cap, rfl, hg, hm⟩
        · have HM := Lib.hid (MapRow.conv wr f s (grownCap wr s.size 0 5) 5 (grownCap_ge wr s.size 0 _) i h)
          have hrb2 : rb < wr.heap.size := cell_lt hc
          have hc2 := Lib.cell?_alloc_marked (.cells (bytesRow s (grownCap wr s.size 0 5)) 5 ((bytesRow s (grownCap wr s.size 0 5)).size, (bytesRow s (grownCap wr s.size 0 5)).size + 1)) hc
          have hcell := HM.out.1 i hlt
          have hfz := HM.out.2 i hlt
          have HP := Lib.hid (HM.out.put hlt)
          have HB := Lib.hid ((B.alloc B.size (.cells (bytesRow s (grownCap wr s.size 0 5)) 5 ((bytesRow s (grownCap wr s.size 0 5)).size, (bytesRow s (grownCap wr s.size 0 5)).size + 1))).drew)
          have hc2' : (wr.alloc (.cells (bytesRow s (grownCap wr s.size 0 5)) 5 ((bytesRow s (grownCap wr s.size 0 5)).size, (bytesRow s (grownCap wr s.size 0 5)).size + 1))).drew.cell? ⟨rb, s[i].toNat, none⟩ = _ := hc2
          have hcell' : (wr.alloc (.cells (bytesRow s (grownCap wr s.size 0 5)) 5 ((bytesRow s (grownCap wr s.size 0 5)).size, (bytesRow s (grownCap wr s.size 0 5)).size + 1))).cell? ⟨wr.heap.size, i, none⟩ = _ := hcell
          have hfz' : (wr.alloc (.cells (bytesRow s (grownCap wr s.size 0 5)) 5 ((bytesRow s (grownCap wr s.size 0 5)).size, (bytesRow s (grownCap wr s.size 0 5)).size + 1))).frozen? ⟨wr.heap.size, i, none⟩ = _ := hfz
          clear HM
          go_wp2
          refine ⟨⟨i + 1, by go_num, by omega, HB.out.setCell (p := ⟨wr.heap.size, i, none⟩) B.size _, .inr ⟨wr.heap.size, _, rfl, B.size, HP.out⟩⟩, ?_⟩
          simp [RowKit.intOf]; omega
        · have hcell := hm.1 i hlt
          have hfz := hm.2 i hlt
          have HM := Lib.hid (hm.put hlt)
          clear hm
          go_wp2
          refine ⟨⟨i + 1, by go_num, by omega, B.setCell (p := ⟨g, i, none⟩) hg _, .inr ⟨g, _, rfl, hg, HM.out⟩⟩, ?_⟩
          simp [RowKit.intOf]; omega
    · have i1 : ¬ (i : Int) < s.size := by omega
      obtain rfl : i = s.size := by omega
      rcases hb with ⟨rfl, h⟩ | ⟨g, cap, rfl, hg, hm⟩
      · have HS := Lib.hid (mapBytes_same f s (fun k hk => h k hk hk))
        go_wp2
        go_ret
        rw [HS.out]
        exact ⟨rfl, B⟩
      · have hbk := hback wr g 0 cap (mapBytes f s) hm.row
        rw [mapBytes_size] at hbk
        go_wp2
        go_ret
        exact ⟨rfl, B⟩
end Go.Proofs.Ytlhlehmmaoadgaa
