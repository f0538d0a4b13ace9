/- makeGenericReplacer: the trie of some pairs. -/
import Derived.Test.YtlhlehmmaoadgaaTriAll
import Derived.Test.YtlhlehmmaoadgaaGenPlain
import Derived.Test.YtlhlehmmaoadgaaArr
import Derived.Test.YtlhlehmmaoadgaaFits
namespace Go.Proofs.Ytlhlehmmaoadgaa
open Go.RowKit Go.Lib
set_option linter.unusedVariables false

/-- the replacer's block while it is made: 'mp': what stands at each byte -/
structure GR (w : World) (rb : Nat) (tb : Value) (ts : Nat) (mp : Nat → Nat) : Prop where
  node : NodeAt w rb ⟨#[]⟩ 0 ⟨#[]⟩ (.pointer none) tb
  size : w.cell? ⟨rb, 5, none⟩ = some (.int .i64 ts)
  map : ∀ c, c < 256 → w.cell? ⟨rb, 6 + c, none⟩ = some (.int .u8 (mp c))
  pl : Plain w rb
theorem GR.drewN {w : World} {rb : Nat} {tb : Value} {ts : Nat} {mp : Nat → Nat} (h : GR w rb tb ts mp) (n : Nat) : GR (w.drewN n) rb tb ts mp := ⟨h.node.drewN n, h.size, h.map, h.pl⟩
theorem GR.setMap {w : World} {rb : Nat} {tb : Value} {ts : Nat} {mp : Nat → Nat} (h : GR w rb tb ts mp) (c : Nat) (hc : c < 256) (x : Nat) : GR (w.setCell ⟨rb, 6 + c, none⟩ (.int .u8 x)) rb tb ts (fun k => if k = c then x else mp k) := by
  have o : ∀ o, o ≠ 6 + c → (w.setCell ⟨rb, 6 + c, none⟩ (.int .u8 x)).cell? ⟨rb, o, none⟩ = w.cell? ⟨rb, o, none⟩ := fun o ho => cs_other _ _ _ _ _ _ (.inr ho)
  refine ⟨⟨(o 0 (by omega)).trans h.node.c0, (o 1 (by omega)).trans h.node.c1, (o 2 (by omega)).trans h.node.c2, (o 3 (by omega)).trans h.node.c3, (o 4 (by omega)).trans h.node.c4, fun o' => by rw [fz_set]; exact h.node.fz o'⟩, (o 5 (by omega)).trans h.size, fun k hk => ?_, h.pl.set _ _⟩
  by_cases e : k = c
  · subst e; rw [World.cell?_setCell_same _ _ _ (h.map k hk)]; simp
  · rw [o (6 + k) (by omega), h.map k hk]; simp [e]
theorem GR.setSize {w : World} {rb : Nat} {tb : Value} {ts : Nat} {mp : Nat → Nat} (h : GR w rb tb ts mp) (x : Nat) : GR (w.setCell ⟨rb, 5, none⟩ (.int .i64 x)) rb tb x mp := by
  have o : ∀ o, o ≠ 5 → (w.setCell ⟨rb, 5, none⟩ (.int .i64 x)).cell? ⟨rb, o, none⟩ = w.cell? ⟨rb, o, none⟩ := fun o ho => cs_other _ _ _ _ _ _ (.inr ho)
  exact ⟨⟨(o 0 (by omega)).trans h.node.c0, (o 1 (by omega)).trans h.node.c1, (o 2 (by omega)).trans h.node.c2, (o 3 (by omega)).trans h.node.c3, (o 4 (by omega)).trans h.node.c4, fun o' => by rw [fz_set]; exact h.node.fz o'⟩, by rw [World.cell?_setCell_same _ _ _ h.size], fun k hk => (o (6 + k) (by omega)).trans (h.map k hk), h.pl.set _ _⟩
theorem GR.congr {w : World} {rb : Nat} {tb : Value} {ts : Nat} {mp mp' : Nat → Nat} (h : GR w rb tb ts mp) (e : ∀ c, c < 256 → mp c = mp' c) : GR w rb tb ts mp' := ⟨h.node, h.size, fun c hc => by rw [← e c hc]; exact h.map c hc, h.pl⟩
/-- the array of places, as it is read whole -/
def arrOf (mp : Nat → Nat) : Array Value := Array.ofFn (n := 256) fun i => Value.int .u8 (mp i.val)
theorem arrOf_size (mp : Nat → Nat) : (arrOf mp).size = 256 := by simp [arrOf]
theorem arrOf_at (mp : Nat → Nat) (k : Nat) (h : k < 256) : (arrOf mp)[k]? = some (.int .u8 (mp k)) := by
  unfold arrOf
  rw [Array.getElem?_ofFn]
  simp [h]
theorem GR.arr {w : World} {rb : Nat} {tb : Value} {ts : Nat} {mp : Nat → Nat} (h : GR w rb tb ts mp) : ∀ j v, (arrOf mp).toList[j]? = some v → w.cell? ((⟨rb, 6, none⟩ : Addr).add j) = some v := fun j v hv => by
  have hj : j < 256 := by
    have := (List.getElem?_eq_some_iff.1 hv).1
    rw [Array.length_toList, arrOf_size] at this
    exact this
  rw [Array.getElem?_toList, arrOf_at mp j hj] at hv
  rw [show (⟨rb, 6, none⟩ : Addr).add j = ⟨rb, 6 + j, none⟩ by unfold Addr.add; split <;> simp_all, h.map j hj]
  exact hv

theorem below_drewN' {B : Nat} {a w : World} (h : Below B a w) (n : Nat) : Below B a (w.drewN n) := ⟨h.os, h.tape, h.output, h.size, h.block⟩
def genCells : Array Value := #[.string ⟨#[]⟩, .int .i64 0, .string ⟨#[]⟩, .pointer none, .slice none 0 0, .int .i64 0] ++ Array.replicate 256 (.int .u8 0)
theorem zero_gen : (∀ w : World, (zeroValue 73).run Try.prog w = .ok (.agg genCells) w) ∧ (genCells).size = 262 ∧ genCells ≠ #[] :=
  have hs : (genCells).size = 262 := by simp [genCells]
  ⟨fun w => by kernel_rfl, hs, fun e => by have h := hs; rw [e] at h; cases h⟩
theorem gen_at (i : Nat) (h : i < 6) : genCells[i]? = (#[.string ⟨#[]⟩, .int .i64 0, .string ⟨#[]⟩, .pointer none, .slice none 0 0, .int .i64 0] : Array Value)[i]? := by
  unfold genCells
  rw [Array.getElem?_append_left (by simpa using h)]
theorem gen_new (w : World) (T : TypeId) : GR (w.alloc (.cells genCells T)) w.heap.size (.slice none 0 0) 0 (fun _ => 0) := by
  have hc : ∀ o, (w.alloc (.cells genCells T)).cell? ⟨w.heap.size, o, none⟩ = genCells[o]? := fun o => by
    rw [World.cell?_alloc_at _ _ _ _ rfl]
  refine ⟨⟨(hc 0).trans (gen_at 0 (by omega)), (hc 1).trans (gen_at 1 (by omega)), (hc 2).trans (gen_at 2 (by omega)), (hc 3).trans (gen_at 3 (by omega)), (hc 4).trans (gen_at 4 (by omega)), fun o => World.frozen?_alloc_at _ _ _ _ rfl⟩, (hc 5).trans (gen_at 5 (by omega)), fun c h => (hc _).trans ?_, ⟨_, _, heap_alloc_new w _⟩⟩
  unfold genCells
  rw [Array.getElem?_append_right (by simp)]
  simp [h]
theorem infoArr {mp : Nat → Nat} : (Try.prog.info? 57).map (·.size) = some (arrOf mp).size := by
  rw [arrOf_size]; kernel_rfl
def b01 (u : Nat → Bool) (c : Nat) : Nat := if u c then 1 else 0

def G1 (l : List ByteArray) (w : World) (i : Value) (wr : World) : Prop := ∃ j : Nat, i = .int .i64 (2 * (j : Int)) ∧ 2 * j ≤ l.length ∧ GR wr w.heap.size (.slice none 0 0) 0 (b01 (usedTo l j)) ∧ Below w.heap.size w wr
def G2 (l : List ByteArray) (key : ByteArray) (j : Nat) (w : World) (i : Value) (wr : World) : Prop := ∃ t : Nat, i = .int .i64 t ∧ t ≤ key.size ∧ GR wr w.heap.size (.slice none 0 0) 0 (b01 (fun c => usedTo l j c || hasTo key t c)) ∧ Below w.heap.size w wr

theorem isAggU8 (w : World) : (isAgg 5).run Try.prog w = .ok false w := by
  unfold isAgg
  rw [Sem.run_bind, run_underlying Try.underlying5 w]
  rfl
theorem cell_lt' {w : World} {a : Addr} {v : Value} (h : w.cell? a = some v) : a.block < w.heap.size := World.block_lt_of_cell? w a h
theorem str_at (w : World) (x : Addr) (n cap i : Nat) (h : i < n) : (Instr.indexAt 22 (.slice (some x) n cap) (.int .i64 (i : Int))).run Try.prog w = .ok (.pointer (some (x.add i))) w := by
  have e1 : (0 : Int) ≤ (i : Int) ∧ (i : Int) < (n : Int) := by omega
  have hi : (Try.prog.info? 9).map (fun i => (i.zero, i.size, i.bytes)) = some (some (.string ⟨#[]⟩), 1, 16) := by kernel_rfl
  obtain ⟨i0, h0, _, h2, _⟩ := info_parts hi
  simp [Instr.indexAt, run_underlying Try.underlying22, asIntOf, e1, sizeOf, typeInfo, h0, h2, go_sem]
  intro h'; omega
theorem infoU8 : (Try.prog.info? 5).map (·.size) = some 1 := by kernel_rfl
theorem b01_le (u : Nat → Bool) (k : Nat) : b01 u k ≤ 1 := by unfold b01; split <;> omega
theorem cntU_b01 (u : Nat → Bool) (k : Nat) : cntU u (k + 1) = cntU u k + b01 u k := rfl
/-- the places that are laid already -/
def mpTo (u : Nat → Bool) (k c : Nat) : Nat := if c < k then (if u c then cntU u c else cntU u 256) else b01 u c
def G3 (u : Nat → Bool) (w : World) (i : Value) (wr : World) : Prop := ∃ k : Nat, i = .int .i64 k ∧ k ≤ 256 ∧ GR wr w.heap.size (.slice none 0 0) (cntU u k) (b01 u) ∧ Below w.heap.size w wr
def G4 (u : Nat → Bool) (w : World) (b i : Value) (wr : World) : Prop := ∃ (k : Nat) (x : Int), i = .int .i64 k ∧ b = .int .u8 x ∧ k ≤ 256 ∧ (k < 256 → x = cntU u k) ∧ GR wr w.heap.size (.slice none 0 0) (cntU u 256) (mpTo u k) ∧ Below w.heap.size w wr

def G5 (l : List ByteArray) (u : Nat → Bool) (w : World) (i : Value) (wr : World) : Prop := ∃ (j : Nat) (fp : Nat → Prop), i = .int .i64 (2 * (j : Int)) ∧ 2 * j ≤ l.length ∧ Tri wr w.heap.size (cntU u 256) (idxU u) w.heap.size (keysTo l j) fp ∧ RepAt wr w.heap.size (cntU u 256) (idxU u) ∧ (∀ x, fp x → w.heap.size ≤ x ∧ x < wr.heap.size) ∧ (∀ x, fp x → Plain wr x) ∧ Below w.heap.size w wr ∧ (∃ g, wr.cell? ⟨w.heap.size, 4, none⟩ = some (.slice (some ⟨g, 0, none⟩) (cntU u 256) (cntU u 256)))
theorem gen_ready {w wr : World} {u : Nat → Bool} (G : GR wr w.heap.size (.slice none 0 0) (cntU u 256) (mpTo u 256)) (B : Below w.heap.size w wr) :
    Tri ((wr.setCell ⟨w.heap.size, 4, none⟩ (.slice (some ⟨wr.heap.size, 0, none⟩) (cntU u 256) (cntU u 256))).alloc (.cells (madeCells #[.pointer none] (cntU u 256)) 68)) w.heap.size (cntU u 256) (idxU u) w.heap.size (fun _ => none) (fun x => x = w.heap.size ∨ x = wr.heap.size) ∧
    RepAt ((wr.setCell ⟨w.heap.size, 4, none⟩ (.slice (some ⟨wr.heap.size, 0, none⟩) (cntU u 256) (cntU u 256))).alloc (.cells (madeCells #[.pointer none] (cntU u 256)) 68)) w.heap.size (cntU u 256) (idxU u) ∧
    Below w.heap.size w ((wr.setCell ⟨w.heap.size, 4, none⟩ (.slice (some ⟨wr.heap.size, 0, none⟩) (cntU u 256) (cntU u 256))).alloc (.cells (madeCells #[.pointer none] (cntU u 256)) 68)) ∧
    ∀ x, (x = w.heap.size ∨ x = wr.heap.size) → w.heap.size ≤ x ∧ x < ((wr.setCell ⟨w.heap.size, 4, none⟩ (.slice (some ⟨wr.heap.size, 0, none⟩) (cntU u 256) (cntU u 256))).alloc (.cells (madeCells #[.pointer none] (cntU u 256)) 68)).heap.size ∧ Plain ((wr.setCell ⟨w.heap.size, 4, none⟩ (.slice (some ⟨wr.heap.size, 0, none⟩) (cntU u 256) (cntU u 256))).alloc (.cells (madeCells #[.pointer none] (cntU u 256)) 68)) x := by
  have hpl := G.pl.set ⟨w.heap.size, 4, none⟩ (.slice (some ⟨wr.heap.size, 0, none⟩) (cntU u 256) (cntU u 256))
  have hrb : w.heap.size < wr.heap.size := cell_lt' G.size
  have s1 : (wr.setCell ⟨w.heap.size, 4, none⟩ (.slice (some ⟨wr.heap.size, 0, none⟩) (cntU u 256) (cntU u 256))).heap.size = wr.heap.size := by simp
  have N1 := G.node.set4 (.slice (some ⟨wr.heap.size, 0, none⟩) (cntU u 256) (cntU u 256))
  have c1 : ∀ o, o ≠ 4 → (wr.setCell ⟨w.heap.size, 4, none⟩ (.slice (some ⟨wr.heap.size, 0, none⟩) (cntU u 256) (cntU u 256))).cell? ⟨w.heap.size, o, none⟩ = wr.cell? ⟨w.heap.size, o, none⟩ := fun o ho => cs_other _ _ _ _ _ _ (.inr ho)
  have B1 : Below w.heap.size w (wr.setCell ⟨w.heap.size, 4, none⟩ (.slice (some ⟨wr.heap.size, 0, none⟩) (cntU u 256) (cntU u 256))) := B.setCell (p := ⟨w.heap.size, 4, none⟩) (Nat.le_refl _) _
  generalize wr.setCell ⟨w.heap.size, 4, none⟩ (.slice (some ⟨wr.heap.size, 0, none⟩) (cntU u 256) (cntU u 256)) = wa at s1 N1 c1 B1 hpl ⊢
  have hsb : SameBlk wa (wa.alloc (.cells (madeCells #[.pointer none] (cntU u 256)) 68)) w.heap.size := (SameBlk.refl _ _).alloc (by omega) _
  have hle := cntU_le u 256
  refine ⟨.tab (kid := fun _ => none) (ms := fun _ _ => none) (fps := fun _ _ => False) (N1.same hsb) (fun i hi => ?_) (fun o => World.frozen?_alloc_at _ _ _ _ (by show wr.heap.size = wa.heap.size; omega)) (fun i c _ h => by cases h) (fun i _ _ => ⟨fun _ => rfl, fun _ h => h⟩) (by simp [here]) (fun x k => by simp) (.inl rfl) (.inr rfl) (fun i x _ h => h.elim) (fun i _ => ⟨id, id⟩) (fun i j x _ _ _ h => h.elim) (by omega) (by omega), ⟨by simp; omega, ?_, fun x => ?_, hle, fun x y => idxU_inj u x y, idxU_le u⟩, B1.alloc (by omega) _, fun x hx => ?_⟩
  · rw [World.cell?_alloc_at _ _ _ _ (by show wr.heap.size = wa.heap.size; omega)]
    exact made_ptr _ i hi
  · rw [(hsb 5).1, c1 5 (by omega)]; exact G.size
  · have hx := x.toNat_lt
    rw [(hsb _).1, c1 _ (by omega), G.map x.toNat hx]
    congr 3
    unfold mpTo idxU
    rw [if_pos (show x.toNat < 256 from hx)]
    by_cases hu : u x.toNat = true
    · rw [if_pos hu, if_pos hu]
    · rw [if_neg hu, if_neg hu, Nat.mod_eq_of_lt (cntU_room u (show x.toNat < 256 from hx) (by simpa using hu))]
  · rcases hx with rfl | rfl
    · exact ⟨Nat.le_refl _, by simp; omega, Plain.alloc ⟨_, _, rfl⟩ (by simp; omega) (fun _ => hpl)⟩
    · exact ⟨by omega, by simp; omega, Plain.alloc ⟨_, _, rfl⟩ (by simp; omega) (fun h => by omega)⟩

/-- a generic replacer of some pairs -/
def MadeGen (l : List ByteArray) (n : Nat) (w : World) (e : Ending) (w' : World) : Prop :=
  ∃ (u : Nat → Bool) (fp : Nat → Prop), e = .returned (.pointer (some ⟨w.heap.size, 0, none⟩)) ∧ Tri w' w.heap.size (cntU u 256) (idxU u) w.heap.size (keysTo l n) fp ∧ RepAt w' w.heap.size (cntU u 256) (idxU u) ∧ (∀ x, fp x → w.heap.size ≤ x ∧ x < w'.heap.size) ∧ (∀ x, fp x → Plain w' x) ∧ Below w.heap.size w w' ∧ u = usedTo l n ∧ (∃ g, w'.cell? ⟨w.heap.size, 4, none⟩ = some (.slice (some ⟨g, 0, none⟩) (cntU u 256) (cntU u 256)))
set_option maxHeartbeats 3200000 in
set_option maxRecDepth 100000 in
theorem makeGeneric (a : Option Addr) (n cap : Nat) (l : List ByteArray) (w : World) (hl : l.length = 2 * n) (hs : StrsAt w w.heap.size a l) (hn : n < 4611686018427387904) (hk : ∀ s ∈ l, s.size < 4611686018427387904) :
    Calls Try.prog 19 #[.slice a (2 * n) cap] w (MadeGen l n w) := by
  have HS := Lib.hid hs
  have HL := Lib.hid hl
  have HK := Lib.hid hk
  obtain ⟨hzv, hzs, hzn⟩ := zero_gen
  clear hs hl hk
  go_enter Try.func19, Try.ntmps19
  go_wp2_with fail
  have g0 := gen_new w 73
  have b0 : Below w.heap.size w (w.alloc (.cells genCells 73)) := (Below.refl _ _).alloc (Nat.le_refl _) _
  clear hzv hzs hzn
  generalize w.alloc (.cells genCells 73) = w0 at g0 b0 ⊢
  go_loopw [4] (G1 l w) (fun i _ => 2 * n - (RowKit.intOf i).toNat)
  case atStart => exact ⟨0, rfl, Nat.zero_le _, g0.congr (fun c _ => by simp [b01, usedTo]), b0⟩
  case round =>
    clear g0 b0
    obtain ⟨j, rfl, hj, G, B⟩ := hrel
    have hjn : 2 * j ≤ 2 * n := by have := HL.out; omega
    by_cases hlt : j < n
    · have hjl : 2 * j < l.length := by have := HL.out; omega
      obtain ⟨x, rfl, hx, hc⟩ := HS.out.below B (2 * j) hjl
      have e1 : 2 * (j : Int) < 2 * (n : Int) := by omega
      have hks : l[2 * j].size < 4611686018427387904 := HK.out _ (List.getElem_mem _)
      have HG := Lib.hid (show l.getD (2 * j) ⟨#[]⟩ = l[2 * j] by simp [List.getD, hjl])
      generalize hkey : l[2 * j] = key at *
      clear hkey
      go_wp2_with fail
      obtain ⟨wo, rfl⟩ : ∃ wo : World, wo = wr := ⟨_, rfl⟩
      go_loopw [6] (G2 l key j w) (fun i _ => key.size - (RowKit.intOf i).toNat)
      case atStart => exact ⟨0, rfl, Nat.zero_le _, G.congr (fun c _ => by simp [b01, hasTo_zero]), B⟩
      case round =>
        clear G B hc
        obtain ⟨t, rfl, ht, G, B⟩ := hrel
        by_cases htl : t < key.size
        · have i1 : (t : Int) < key.size := by omega
          have hm := G.map key[t].toNat key[t].toNat_lt
          have hf := G.node.fz (6 + key[t].toNat)
          have hm1 : (key[t].toNat : Int) < 256 := by have := key[t].toNat_lt; omega
          have G' := Lib.hid ((G.drewN 1).setMap key[t].toNat key[t].toNat_lt 1)
          have B' := Lib.hid ((below_drewN' B 1).setCell (p := ⟨w.heap.size, 6 + key[t].toNat, none⟩) (Nat.le_refl _) (.int .u8 1))
          go_wp2_with fail
          refine region_tail 7 (by kernel_rfl) (by kernel_rfl) ?_
          simp only [List.take_succ_cons, List.take_zero, List.drop_succ_cons, List.drop_zero]
          repeat still_step
          refine wpStill_nil ?_
          go_wp2_with fail
          go_roundw
          case rel =>
            refine ⟨t + 1, by go_num, by omega, ?_, B'.out⟩
            refine GR.congr G'.out (fun c hc => ?_)
            unfold b01
            simp only [hasTo_succ key t htl]
            by_cases e : c = key[t].toNat
            · subst e; simp
            · have e' : (key[t].toNat == c) = false := beq_eq_false_iff_ne.2 (fun h => e h.symm)
              simp [e, e']
          case measure => simp [RowKit.intOf]; omega
        · obtain rfl : t = key.size := by omega
          have i1 : ¬ ((key.size : Int) < key.size) := by omega
          clear htl
          go_wp2_with fail
          go_roundw
          case rel =>
            refine ⟨j + 1, by go_num, by have := HL.out; omega, G.congr (fun c hc => ?_), B⟩
            simp only [b01, usedTo, HG.out]
          case measure => simp [RowKit.intOf]; omega
    · obtain rfl : j = n := by omega
      clear hlt hj hjn
      have e1 : ¬ (2 * (j : Int) < 2 * (j : Int)) := by omega
      generalize hu : usedTo l j = u at G
      have HU := Lib.hid hu
      clear hu
      have hmk := Go.run_make_row' (P := Try.prog) 69 68 (.pointer none) 8 Try.underlying69 infoPtr rfl .i64 .i64 (cntU u 256) (by have := cntU_le u 256; omega) (by have := cntU_le u 256; omega)
      go_wp2_with (refine wpList_load_at rfl 57 _ rfl ⟨w.heap.size, 6, none⟩ rfl (arrOf (b01 u)) (.array 256 5) G.arr Try.underlying57 rfl infoArr ?_)
      go_loopw [41] (G3 u w) (fun i _ => 256 - (RowKit.intOf i).toNat)
      case atStart => exact ⟨0, rfl, Nat.zero_le _, G, B⟩
      case round =>
        clear G B
        obtain ⟨k, rfl, hk, G, B⟩ := hrel
        have hcl := cntU_le u k
        by_cases hk2 : k < 256
        · have i1 : (k : Int) < 256 := by omega
          have hix : ∀ w, (Instr.index 57 (.agg (arrOf (b01 u))) (.int .i64 (k : Int))).run Try.prog w = .ok (.int .u8 (b01 u k)) w := fun w => run_index_arr w _ 5 256 _ _ k _ Try.underlying57 isAggU8 infoU8 hk2 (arrOf_at _ k hk2)
          have hb1 := b01_le u k
          have hsz := G.size
          have hf := G.node.fz 5
          have G' := G.setSize (cntU u (k + 1))
          have ec : ((cntU u (k + 1) : Nat) : Int) = (cntU u k : Int) + (b01 u k : Int) := by rw [cntU_b01]; push_cast; rfl
          rw [ec] at G'
          have HG' := Lib.hid G'
          have B' := Lib.hid (B.setCell (p := ⟨w.heap.size, 5, none⟩) (Nat.le_refl _) (.int .i64 ((cntU u k : Int) + (b01 u k : Int))))
          clear G' ec
          go_wp2_with fail
          go_roundw
          case rel => exact ⟨k + 1, by go_num, by omega, HG'.out, B'.out⟩
          case measure => simp [RowKit.intOf]; omega
        · obtain rfl : k = 256 := by omega
          clear hk2 hk
          go_wp2_with (refine wpList_load_at rfl 57 _ rfl ⟨w.heap.size, 6, none⟩ rfl (arrOf (b01 u)) (.array 256 5) G.arr Try.underlying57 rfl infoArr ?_)
          obtain ⟨wo, rfl⟩ : ∃ wo : World, wo = wr := ⟨_, rfl⟩
          go_loopw [9, 58] (G4 u w) (fun _ i _ => 256 - (RowKit.intOf i).toNat)
          case atStart => exact ⟨0, 0, rfl, rfl, Nat.zero_le _, fun _ => rfl, G.congr (fun c _ => by simp [mpTo]), B⟩
          case round =>
            clear G B
            obtain ⟨k, x, rfl, rfl, hk, hxk, G, B⟩ := hrel
            have hcl := cntU_le u k
            have htl := cntU_le u 256
            by_cases hk2 : k < 256
            · have i1 : (k : Int) < 256 := by omega
              obtain rfl : x = cntU u k := hxk hk2
              clear hxk
              have hm := G.map k hk2
              have hf := G.node.fz (6 + k)
              have hsz := G.size
              cases huk : u k with
              | false =>
                have hix : ∀ w, (Instr.index 57 (.agg (arrOf (b01 u))) (.int .i64 (k : Int))).run Try.prog w = .ok (.int .u8 0) w := fun w => by
                  have := run_index_arr (P := Try.prog) w _ 5 256 (arrOf (b01 u)) .i64 k _ Try.underlying57 isAggU8 infoU8 hk2 (arrOf_at _ k hk2)
                  rw [this]; simp [b01, huk]
                have hroom := cntU_room u hk2 huk
                have ec := Lib.hid (show cntU u (k + 1) = cntU u k by rw [cntU_b01]; simp [b01, huk])
                have G' := Lib.hid (((G.drewN 1).setMap k hk2 (cntU u 256)).congr (mp' := mpTo u (k + 1)) (fun c hc => by
                  unfold mpTo
                  by_cases e : c = k
                  · subst e; simp [huk]
                  · by_cases e2 : c < k
                    · simp [e, e2, show c < k + 1 by omega]
                    · simp [e, e2, show ¬ c < k + 1 by omega]))
                have B' := Lib.hid ((below_drewN' B 1).setCell (p := ⟨w.heap.size, 6 + k, none⟩) (Nat.le_refl _) (.int .u8 (cntU u 256)))
                have hr1 : (cntU u 256 : Int) < 256 := by omega
                have HU2 := Lib.hid huk
                clear huk
                go_wp2_with fail
                refine region_tail 10 (by kernel_rfl) (by kernel_rfl) ?_
                simp only [List.take_succ_cons, List.take_zero, List.drop_succ_cons, List.drop_zero]
                repeat still_step
                refine wpStill_nil ?_
                go_wp2_with fail
                go_roundw
                case rel => exact ⟨k + 1, _, by go_num, rfl, by omega, fun _ => by rw [ec.out], G'.out, B'.out⟩
                case measure => simp [RowKit.intOf]; omega
              | true =>
                have hix : ∀ w, (Instr.index 57 (.agg (arrOf (b01 u))) (.int .i64 (k : Int))).run Try.prog w = .ok (.int .u8 1) w := fun w => by
                  have := run_index_arr (P := Try.prog) w _ 5 256 (arrOf (b01 u)) .i64 k _ Try.underlying57 isAggU8 infoU8 hk2 (arrOf_at _ k hk2)
                  rw [this]; simp [b01, huk]
                have ec := Lib.hid (show cntU u (k + 1) = cntU u k + 1 by rw [cntU_b01]; simp [b01, huk])
                have G' := Lib.hid ((G.setMap k hk2 (cntU u k)).congr (mp' := mpTo u (k + 1)) (fun c hc => by
                  unfold mpTo
                  by_cases e : c = k
                  · subst e; simp [huk]
                  · by_cases e2 : c < k
                    · simp [e, e2, show c < k + 1 by omega]
                    · simp [e, e2, show ¬ c < k + 1 by omega]))
                have B' := Lib.hid (B.setCell (p := ⟨w.heap.size, 6 + k, none⟩) (Nat.le_refl _) (.int .u8 (cntU u k)))
                have HU2 := Lib.hid huk
                clear huk
                by_cases hk3 : k + 1 < 256
                · have i2 : (cntU u k : Int) + 1 ≤ 255 := by omega
                  go_wp2_with fail
                  go_roundw
                  case rel => exact ⟨k + 1, _, by go_num, rfl, by omega, fun _ => by rw [ec.out]; push_cast; rfl, G'.out, B'.out⟩
                  case measure => simp [RowKit.intOf]; omega
                · go_wp2_with fail
                  go_roundw
                  case rel => exact ⟨k + 1, _, by go_num, rfl, by omega, fun h => absurd h hk3, G'.out, B'.out⟩
                  case measure => simp [RowKit.intOf]; omega
            · obtain rfl : k = 256 := by omega
              clear hk2 hk hxk
              have hsz := G.size
              have h4 := G.node.c4
              have f4 := G.node.fz 4
              have hrb : w.heap.size < wr.heap.size := cell_lt' h4
              go_wp2_with fail
              obtain ⟨T5, R5, B5, F5⟩ := gen_ready G B
              have K5 : ∃ g, ((wr.setCell ⟨w.heap.size, 4, none⟩ (.slice (some ⟨wr.heap.size, 0, none⟩) (cntU u 256) (cntU u 256))).alloc (.cells (madeCells #[.pointer none] (cntU u 256)) 68)).cell? ⟨w.heap.size, 4, none⟩ = some (.slice (some ⟨g, 0, none⟩) (cntU u 256) (cntU u 256)) :=
                ⟨wr.heap.size, by rw [cell_alloc_lt _ _ _ (by simpa using hrb), World.cell?_setCell_same _ _ _ h4]⟩
              clear G B hsz h4 f4 hrb hmk
              have IDX := Lib.hid (fun x : UInt8 => idxU_lt u x)
              generalize (wr.setCell ⟨w.heap.size, 4, none⟩ (.slice (some ⟨wr.heap.size, 0, none⟩) (cntU u 256) (cntU u 256))).alloc (.cells (madeCells #[.pointer none] (cntU u 256)) 68) = w5 at T5 R5 B5 F5 K5 ⊢
              go_loopw [12] (G5 l u w) (fun i _ => 2 * j - (RowKit.intOf i).toNat)
              case atStart => exact ⟨0, _, rfl, Nat.zero_le _, T5, R5, fun x hx => ⟨(F5 x hx).1, (F5 x hx).2.1⟩, fun x hx => (F5 x hx).2.2, B5, K5⟩
              case round =>
                clear T5 R5 B5 F5 K5
                obtain ⟨i, fp, rfl, hi, T, R, F, FP, B, gk5, hk5⟩ := hrel
                have HK5 := Lib.hid hk5
                clear hk5
                have hin : 2 * i ≤ 2 * j := by have := HL.out; omega
                by_cases hlt : i < j
                · have hjl : 2 * i < l.length := by have := HL.out; omega
                  have hjl2 : 2 * i + 1 < l.length := by have := HL.out; omega
                  obtain ⟨x, rfl, hx, hc⟩ := HS.out.below B (2 * i) hjl
                  obtain ⟨x', hx', _, hc'⟩ := HS.out.below B (2 * i + 1) hjl2
                  obtain rfl := Option.some.inj hx'
                  have e1 : 2 * (i : Int) < 2 * (j : Int) := by omega
                  have e2 : 2 * (i : Int) + 1 < 2 * (j : Int) := by omega
                  have x1 : IntKind.i64.wrap (2 * (i : Int) + 1) = 2 * (i : Int) + 1 := IntWalk.i64_in _ (by omega)
                  have x2 : (2 * (i : Int) + 1).toNat = 2 * i + 1 := by omega
                  have x3 : IntKind.i64.wrap (2 * (j : Int) - 2 * (i : Int)) = 2 * (j : Int) - 2 * (i : Int) := IntWalk.i64_in _ (by omega)
                  have x4 : (0 : Int) ≤ 2 * (i : Int) + 1 := by omega
                  have ix1 : ∀ w, (Instr.indexAt 22 (.slice (some x) (2 * j) cap) (.int .i64 (2 * (i : Int)))).run Try.prog w = .ok (.pointer (some (x.add (2 * i)))) w := fun w => str_at w x (2 * j) cap (2 * i) (by omega)
                  have ix2 : ∀ w, (Instr.indexAt 22 (.slice (some x) (2 * j) cap) (.int .i64 (2 * (i : Int) + 1))).run Try.prog w = .ok (.pointer (some (x.add (2 * i + 1)))) w := fun w => str_at w x (2 * j) cap (2 * i + 1) (by omega)
                  have hks : l[2 * i].size < 4611686018427387904 := HK.out _ (List.getElem_mem _)
                  have HUK := Lib.hid (show ∀ y ∈ l[2 * i].data.toList, idxU u y < cntU u 256 from fun y hy => (idxU_lt u y).2 (by
                    rw [← HU.out]
                    exact usedTo_key l j i hlt y (by simpa [List.getD, hjl] using hy)))
                  have HG1 := Lib.hid (show l.getD (2 * i) ⟨#[]⟩ = l[2 * i] by simp [List.getD, hjl])
                  have HG2 := Lib.hid (show l.getD (2 * i + 1) ⟨#[]⟩ = l[2 * i + 1] by simp [List.getD, hjl2])
                  generalize hkey : l[2 * i] = key at *
                  generalize hval : l[2 * i + 1] = val at *
                  clear hkey hval hx'
                  rw [Addr.add_succ'] at hc'
                  go_wp2_with fail
                  refine region_tail 17 (by kernel_rfl) (by kernel_rfl) ?_
                  simp only [List.take_succ_cons, List.take_zero, List.drop_succ_cons, List.drop_zero]
                  repeat still_step
                  refine wpStill_nil ?_
                  clear x1 x2 x3 x4
                  go_wp2_with fail
                  have eq : 2 * (j : Int) - 2 * (i : Int) = ((l.length - 2 * i : Nat) : Int) := by have := HL.out; omega
                  rw [eq]
                  refine (add_any _ _ _ val (l.length - 2 * i) (by omega) key.size key (Nat.le_refl _) hks HUK.out (wr.drewN 1) w.heap.size (keysTo l i) fp (T.drewN 1) (fun x hx => (F x hx).2) (R.drewN 1)).mono ?_
                  rintro e w1 ⟨rfl, fp2, T2, F2, C2, K2⟩
                  have REL := Lib.hid (show G5 l u w (.int .i64 (2 * ((i + 1 : Nat) : Int))) w1 from ⟨i + 1, fp2, rfl, by omega, by
                      rw [keysTo, HG1.out, HG2.out]; exact T2, R.chg C2.of_drewN, fun x hx => ⟨by
                      rcases (F2 x hx).1 with h | h
                      · exact (F x h).1
                      · exact Nat.le_trans B.size h, (F2 x hx).2⟩, fun x hx => C2.plain x (F2 x hx).2 (fun hlx => by
                      rcases (F2 x hx).1 with h | h
                      · exact FP x h
                      · exact absurd hlx (Nat.not_lt.2 h)), B.trans ((C2.of_drewN).below (fun x hx => (F x hx).1) B.size), gk5, K2 _ _ _ HK5.out⟩)
                  clear T2 F2 C2 K2 eq
                  go_wp2_with fail
                  go_roundw
                  case rel =>
                    have := REL.out
                    push_cast at this
                    simpa [Int.mul_add] using this
                  case measure => simp [RowKit.intOf]; omega
                · obtain rfl : i = j := by omega
                  have e2 : ¬ (2 * (i : Int) < 2 * (i : Int)) := by omega
                  clear hlt
                  go_wp2_with fail
                  go_ret
                  exact ⟨u, fp, rfl, T, R, F, FP, B, HU.out.symm, gk5, HK5.out⟩
end Go.Proofs.Ytlhlehmmaoadgaa
