/- The finder of Boyer and Moore in memory: makeStringFinder lays its two tables as the plain part says. -/
import Derived.Test.YteajdljmbjdbkaaSuffix
import Derived.OwnWalk
import Derived.KernelRfl
import Derived.Deep.OwnRows
import Derived.Lib.SlBytesConst
import Derived.Deep.LoopGhost
namespace Go.Proofs.Yteajdljmbjdbkaa
open Go.RowKit Go.Lib
set_option linter.unusedVariables false

/-- a finder in memory: the struct in block fb, its table of suffixes in block gb -/
structure Fin (w : World) (fb gb : Nat) (p : ByteArray) (bad good : Nat → Int) : Prop where
  pat : w.cell? ⟨fb, 0, none⟩ = some (.string p)
  bads : ∀ c, c < 256 → w.cell? ⟨fb, 1 + c, none⟩ = some (.int .i64 (bad c))
  slot : w.cell? ⟨fb, 257, none⟩ = some (.slice (some ⟨gb, 0, none⟩) p.size p.size)
  goods : ∀ j, j < p.size → w.cell? ⟨gb, j, none⟩ = some (.int .i64 (good j))
  fz1 : ∀ o, w.frozen? ⟨fb, o, none⟩ = false
  fz2 : ∀ o, w.frozen? ⟨gb, o, none⟩ = false
  ne : fb ≠ gb

theorem addr_off_ne (b o o' : Nat) (h : o ≠ o') : (⟨b, o, none⟩ : Addr) ≠ ⟨b, o', none⟩ := fun e => h (by injection e)
theorem addr_blk_ne (b b' o o' : Nat) (h : b ≠ b') : (⟨b, o, none⟩ : Addr) ≠ ⟨b', o', none⟩ := fun e => h (by injection e)

theorem Fin.setBad {w : World} {fb gb : Nat} {p : ByteArray} {bad good : Nat → Int} (h : Fin w fb gb p bad good) (c : Nat) (hc : c < 256) (x : Int) :
    Fin (w.setCell ⟨fb, 1 + c, none⟩ (.int .i64 x)) fb gb p (fun k => if k = c then x else bad k) good where
  pat := by rw [World.cell?_setCell_other _ _ _ _ (addr_off_ne _ _ _ (by omega))]; exact h.pat
  bads := fun k hk => by
    by_cases e : k = c
    · subst e; rw [World.cell?_setCell_same _ _ _ (h.bads k hk)]; simp
    · rw [World.cell?_setCell_other _ _ _ _ (addr_off_ne _ _ _ (by omega)), h.bads k hk]; simp [e]
  slot := by rw [World.cell?_setCell_other _ _ _ _ (addr_off_ne _ _ _ (by omega))]; exact h.slot
  goods := fun j hj => by rw [World.cell?_setCell_other _ _ _ _ (addr_blk_ne _ _ _ _ h.ne)]; exact h.goods j hj
  fz1 := fun o => by simpa using h.fz1 o
  fz2 := fun o => by simpa using h.fz2 o
  ne := h.ne
theorem Fin.setGood {w : World} {fb gb : Nat} {p : ByteArray} {bad good : Nat → Int} (h : Fin w fb gb p bad good) (j : Nat) (hj : j < p.size) (x : Int) :
    Fin (w.setCell ⟨gb, j, none⟩ (.int .i64 x)) fb gb p bad (fun k => if k = j then x else good k) where
  pat := by rw [World.cell?_setCell_other _ _ _ _ (addr_blk_ne _ _ _ _ h.ne.symm)]; exact h.pat
  bads := fun k hk => by rw [World.cell?_setCell_other _ _ _ _ (addr_blk_ne _ _ _ _ h.ne.symm)]; exact h.bads k hk
  slot := by rw [World.cell?_setCell_other _ _ _ _ (addr_blk_ne _ _ _ _ h.ne.symm)]; exact h.slot
  goods := fun k hk => by
    by_cases e : k = j
    · subst e; rw [World.cell?_setCell_same _ _ _ (h.goods k hk)]; simp
    · rw [World.cell?_setCell_other _ _ _ _ (addr_off_ne _ _ _ (by omega)), h.goods k hk]; simp [e]
  fz1 := fun o => by simpa using h.fz1 o
  fz2 := fun o => by simpa using h.fz2 o
  ne := h.ne
theorem Fin.drewN {w : World} {fb gb : Nat} {p : ByteArray} {bad good : Nat → Int} (h : Fin w fb gb p bad good) (n : Nat) : Fin (w.drewN n) fb gb p bad good := ⟨h.pat, h.bads, h.slot, h.goods, h.fz1, h.fz2, h.ne⟩
theorem Fin.drew {w : World} {fb gb : Nat} {p : ByteArray} {bad good : Nat → Int} (h : Fin w fb gb p bad good) : Fin w.drew fb gb p bad good := ⟨h.pat, h.bads, h.slot, h.goods, h.fz1, h.fz2, h.ne⟩

theorem Fin.congr {w : World} {fb gb : Nat} {p : ByteArray} {bad good bad' good' : Nat → Int} (h : Fin w fb gb p bad good) (h1 : ∀ c, c < 256 → bad c = bad' c) (h2 : ∀ j, j < p.size → good j = good' j) : Fin w fb gb p bad' good' :=
  ⟨h.pat, fun c hc => by rw [← h1 c hc]; exact h.bads c hc, h.slot, fun j hj => by rw [← h2 j hj]; exact h.goods j hj, h.fz1, h.fz2, h.ne⟩

/-! ### Plain: the tables by the loops -/
/-- the table of bytes, k places of the pattern done -/
def BadUp (p : ByteArray) (k : Nat) (bad : Nat → Nat) : Prop := ∀ c, c < 256 → bad c ≤ p.size ∧ ∀ x, x < k → p.size < x + 1 + bad c → (gb p x).toNat ≠ c
theorem BadUp.step {p : ByteArray} {k : Nat} {bad : Nat → Nat} (h : BadUp p k bad) (hk : k < p.size) : BadUp p (k + 1) (fun c => if c = p[k].toNat then p.size - 1 - k else bad c) := fun c hc => by
  by_cases e : c = p[k].toNat
  · simp only [if_pos e]
    exact ⟨by omega, fun x hx h2 => by omega⟩
  · simp only [if_neg e]
    refine ⟨(h c hc).1, fun x hx h2 => ?_⟩
    by_cases ex : x = k
    · subst ex; rw [gb_eq p x hk]; exact fun h => e h.symm
    · exact (h c hc).2 x (by omega) h2
theorem BadUp.bad {p : ByteArray} {bad : Nat → Nat} (h : BadUp p (p.size - 1) bad) : BM.Bad (gb p) p.size (fun c => bad c.toNat) := fun c =>
  ⟨(h c.toNat c.toNat_lt).1, fun k hk h2 e => (h c.toNat c.toNat_lt).2 k (by omega) h2 (by rw [e])⟩

theorem pre_iff (p : ByteArray) (t : Nat) (ht : t ≤ p.size) : Lib.hasPrefix p.data.toList (p.extract t p.size).data.toList = true ↔ BM.isPre (gb p) p.size t := by
  unfold Lib.hasPrefix
  rw [List.isPrefixOf_iff_prefix, List.prefix_iff_getElem?, Lib.extract_to_end]
  have hl : p.data.toList.length = p.size := by simp
  constructor
  · intro h k h1 h2
    have := h (k - t) (by rw [List.length_drop, hl]; omega)
    rw [data_getElem? p (k - t) (by omega)] at this
    rw [List.getElem_drop] at this
    have e := Option.some.inj this
    rw [gb_eq p (k - t) (by omega), gb_eq p k h2, e]
    have : p.data.toList[t + (k - t)]'(by rw [hl]; omega) = p[k] := by
      simp only [show t + (k - t) = k by omega]
      exact byte_at' p k h2 _
    exact this
  · intro h i hi
    rw [List.length_drop, hl] at hi
    rw [data_getElem? p i (by omega), List.getElem_drop]
    have := h (t + i) (by omega) (by omega)
    rw [show t + i - t = i by omega, gb_eq p i (by omega), gb_eq p (t + i) (by omega)] at this
    rw [this, byte_at' p (t + i) (by omega)]

theorem lcs_bm (p : ByteArray) (n L : Nat) (hn : n + 1 < p.size + 1) (h : LcsAB p (p.extract 1 (n + 1)) L) (hn2 : n + 1 ≤ p.size) : BM.Lcs (gb p) p.size n L := by
  have hsz : (p.extract 1 (n + 1)).size = n := by simp; omega
  obtain ⟨h1, h2, h3, h4⟩ := h
  rw [hsz] at h2
  have hg : ∀ x, x < n → gb (p.extract 1 (n + 1)) ((p.extract 1 (n + 1)).size - 1 - x) = gb p (n - x) := fun x hx => by
    rw [hsz, gb_eq _ _ (by rw [hsz]; omega), gb_eq p _ (by omega)]
    simp only [ByteArray.getElem_extract]
    congr 1
    omega
  refine ⟨h2, fun x hx => by rw [h3 x hx, hg x (by omega)], ?_⟩
  rcases h4 with e | e | e
  · left; omega
  · left; omega
  · by_cases hL : L = n
    · exact .inl hL
    · right
      rw [hg L (by omega)] at e
      exact e

set_option maxHeartbeats 800000 in
theorem hasPrefix_any (s q : ByteArray) (hs : s.size < 4611686018427387904) (hq : q.size < 4611686018427387904) (w : World) :
    Calls Try.prog 52 #[.string s, .string q] w fun e w' => e = .returned (.bool (Lib.hasPrefix s.data.toList q.data.toList)) ∧ w = w' := by
  have hr := Lib.hid (Lib.hasPrefix_raw s q)
  by_cases h : q.size ≤ s.size
  · have h1 : decide ((q.size : Int) ≤ s.size) = true := by simp; omega
    have h2 : decide (q.size ≤ s.size) = true := by simpa using h
    go_enter Try.func52, Try.ntmps52
    go_wp2
    go_ret
    rw [← hr.out]
    exact ⟨by simp [h], rfl⟩
  · have h1 : decide ((q.size : Int) ≤ s.size) = false := by simp; omega
    have h2 : decide (q.size ≤ s.size) = false := by simpa using h
    go_enter Try.func52, Try.ntmps52
    go_wp2
    go_ret
    rw [← hr.out]
    exact ⟨by simp [h], rfl⟩
def finCells (p : ByteArray) (v : Value) : Array Value := Array.ofFn (n := 258) (fun i => if i.val = 0 then .string p else if i.val = 257 then v else .int .i64 0)
theorem fin_at (p : ByteArray) (v : Value) (i : Nat) (h : i < 258) : (finCells p v)[i]? = some (if i = 0 then .string p else if i = 257 then v else .int .i64 0) := by
  unfold finCells
  rw [Array.getElem?_ofFn]
  simp [h]
theorem info3 : (Try.prog.info? 3).map (fun i => (i.zero, i.size, i.bytes)) = some (some (.int .i64 0), 1, 8) := by kernel_rfl
theorem fin_zero (p : ByteArray) (v : Value) : ((finCells ⟨#[]⟩ (.slice none 0 0)).setIfInBounds 0 (.string p)).setIfInBounds 257 v = finCells p v := by
  have hsz : ∀ p v, (finCells p v).size = 258 := fun p v => by simp [finCells]
  apply Array.ext_getElem?
  intro i
  rw [Array.getElem?_setIfInBounds, Array.getElem?_setIfInBounds, Array.size_setIfInBounds, hsz]
  by_cases hi : i < 258
  · rw [fin_at _ _ _ hi, fin_at _ _ _ hi]
    by_cases e0 : i = 0
    · subst e0; simp
    · by_cases e1 : i = 257
      · subst e1; simp
      · simp [Ne.symm e0, Ne.symm e1, e0, e1]
  · rw [Array.getElem?_eq_none (by rw [hsz]; omega), Array.getElem?_eq_none (by rw [hsz]; omega), if_neg (by omega), if_neg (by omega)]
theorem zero_fin : Try.zeroCells66 = finCells ⟨#[]⟩ (.slice none 0 0) := by kernel_rfl
theorem fin_cells (p : ByteArray) (v : Value) : (Try.zeroCells66.setIfInBounds 0 (.string p)).setIfInBounds 257 v = finCells p v := by
  rw [zero_fin]; exact fin_zero p v
theorem made_at (n j : Nat) (hj : j < n) : (madeCells #[.int .i64 0] n)[j]? = some (.int .i64 0) := by
  simp [madeCells, hj, Nat.mod_one]

theorem fin_start (p : ByteArray) (w : World) (t3 t66 : TypeId) (fr : Nat × Nat) : Fin ((w.alloc (.cells (madeCells #[.int .i64 0] p.size) t3)).alloc (.cells (finCells p (.slice (some ⟨w.heap.size, 0, none⟩) p.size p.size)) t66)) (w.heap.size + 1) w.heap.size p (fun _ => 0) (fun _ => 0) := by
  have hz : (w.alloc (.cells (madeCells #[.int .i64 0] p.size) t3)).heap.size = w.heap.size + 1 := by simp
  have hc : ∀ o, ((w.alloc (.cells (madeCells #[.int .i64 0] p.size) t3)).alloc (.cells (finCells p (.slice (some ⟨w.heap.size, 0, none⟩) p.size p.size)) t66)).cell? ⟨w.heap.size + 1, o, none⟩ = (finCells p (.slice (some ⟨w.heap.size, 0, none⟩) p.size p.size))[o]? := fun o => by
    have := World.cell?_alloc_mark (w.alloc (.cells (madeCells #[.int .i64 0] p.size) t3)) (finCells p (.slice (some ⟨w.heap.size, 0, none⟩) p.size p.size)) t66 (0, 0) o
    rwa [hz] at this
  refine ⟨?_, fun c hc' => ?_, ?_, fun j hj => ?_, fun o => ?_, fun o => ?_, by omega⟩
  · rw [hc, fin_at _ _ _ (by omega)]; simp
  · rw [hc, fin_at _ _ _ (by omega)]; simp [show ¬ (1 + c = 257) by omega]
  · rw [hc, fin_at _ _ _ (by omega)]; simp
  · refine Lib.cell?_alloc_marked _ ?_
    rw [World.cell?_alloc_mark, made_at _ _ hj]
  · have := World.frozen?_alloc_mark (w.alloc (.cells (madeCells #[.int .i64 0] p.size) t3)) (finCells p (.slice (some ⟨w.heap.size, 0, none⟩) p.size p.size)) t66 0 0 o
    rw [hz] at this
    rw [this]; simp
  · have e : ((w.alloc (.cells (madeCells #[.int .i64 0] p.size) t3)).alloc (.cells (finCells p (.slice (some ⟨w.heap.size, 0, none⟩) p.size p.size)) t66)).heap[w.heap.size]? = (w.alloc (.cells (madeCells #[.int .i64 0] p.size) t3)).heap[w.heap.size]? := Below.heap_alloc _ _ _ (by omega)
    have := World.frozen?_of_block (w := w.alloc (.cells (madeCells #[.int .i64 0] p.size) t3)) (a := ⟨w.heap.size, o, none⟩) e
    rw [this, World.frozen?_alloc_mark]; simp

/-- what the finder is good for, wherever it lies -/
structure Ready (w : World) (fb tb : Nat) (p : ByteArray) (bad far : Nat → Nat) : Prop where
  fin : Fin w fb tb p (fun c => (bad c : Int)) (fun j => (far j : Int) + (p.size - 1 - j : Nat))
  isBad : BM.Bad (gb p) p.size (fun c => bad c.toNat)
  isGood : ∀ j, j < p.size → BM.Good (gb p) p.size j (far j)
  farLe : ∀ j, j < p.size → far j ≤ p.size
  badLe : ∀ c : UInt8, bad c.toNat ≤ p.size
def MadeFinder (p : ByteArray) (w : World) (e : Ending) (w' : World) : Prop :=
  ∃ bad far, e = .returned (.pointer (some ⟨w.heap.size + 1, 0, none⟩)) ∧ Ready w' (w.heap.size + 1) w.heap.size p bad far ∧ Below w.heap.size w w'

set_option maxHeartbeats 3200000 in
set_option maxRecDepth 100000 in
theorem makeFinder (p : ByteArray) (hp : 1 ≤ p.size) (hs : p.size < 4294967296) (w : World) :
    Calls Try.prog 44 #[.string p] w (MadeFinder p w) := by
  have hmk := Go.run_make_row' (P := Try.prog) 27 3 (.int .i64 0) 8 Try.underlying27 info3 rfl .i64 .i64 p.size (by omega) (by omega)
  have hfc := fin_cells p
  go_enter Try.func44, Try.ntmps44
  go_wp2_with fail
  have F0 := fin_start p w 3 66 (0, 0)
  have B0 : Below w.heap.size w ((w.alloc (.cells (madeCells #[.int .i64 0] p.size) 3)).alloc (.cells (finCells p (.slice (some ⟨w.heap.size, 0, none⟩) p.size p.size)) 66)) := ((Below.refl _ _).alloc (Nat.le_refl _) _).alloc (by simp) _
  clear hmk hfc
  generalize (w.alloc (.cells (madeCells #[.int .i64 0] p.size) 3)).alloc (.cells (finCells p (.slice (some ⟨w.heap.size, 0, none⟩) p.size p.size)) 66) = v at *
  go_loopw [5, 20] (fun _ vi wr => ∃ (k : Nat) (bad : Nat → Int), k ≤ 256 ∧ vi = .int .i64 k ∧ Fin wr (w.heap.size + 1) w.heap.size p bad (fun _ => 0) ∧ (∀ c, c < k → bad c = p.size) ∧ Below w.heap.size w wr) (fun _ vi _ => 256 - (RowKit.intOf vi).toNat)
  case atStart => exact ⟨0, _, by omega, rfl, F0, fun c h => by omega, B0⟩
  case round =>
    obtain ⟨k, bad, hk, rfl, F, hb, B⟩ := hrel
    by_cases hlt : k < 256
    · have h1 := F.bads k hlt
      have h2 := F.fz1 (1 + k)
      have F2 := Lib.hid (F.setBad k hlt p.size)
      have B2 := B.setCell (p := ⟨w.heap.size + 1, 1 + k, none⟩) (by simp) (.int .i64 p.size)
      have Hb := Lib.hid hb
      clear F hb
      go_wp2
      go_roundw
      case rel => exact ⟨k + 1, _, by omega, by go_num, F2.out, fun c hc => by by_cases e : c = k <;> simp [e]; exact Hb.out c (by omega), B2⟩
      case measure => simp [RowKit.intOf]; omega
    · obtain rfl : k = 256 := by omega
      have F1 : Fin wr (w.heap.size + 1) w.heap.size p (fun c => (((fun _ => p.size) : Nat → Nat) c : Int)) (fun _ => 0) := F.congr (fun c hc => hb c hc) (fun _ _ => rfl)
      have U1 : BadUp p 0 (fun _ => p.size) := fun c hc => ⟨Nat.le_refl _, fun x hx => by omega⟩
      clear F hb F0 B0
      go_wp2
      obtain ⟨wo, rfl⟩ : ∃ wo : World, wo = wr := ⟨_, rfl⟩
      go_loopw [6] (fun vi wr => ∃ (k : Nat) (bad : Nat → Nat), k ≤ p.size - 1 ∧ vi = .int .i64 k ∧ Fin wr (w.heap.size + 1) w.heap.size p (fun c => (bad c : Int)) (fun _ => 0) ∧ BadUp p k bad ∧ Below w.heap.size w wr) (fun vi _ => p.size - (RowKit.intOf vi).toNat)
      case atStart => exact ⟨0, _, by omega, rfl, F1, U1, B⟩
      case round =>
        clear F1 U1 B
        obtain ⟨k, bad, hk, rfl, F, U, B⟩ := hrel
        by_cases hlt : k < p.size - 1
        · have hkp : k < p.size := by omega
          have hc : p[k].toNat < 256 := p[k].toNat_lt
          have h1 := F.bads _ hc
          have h2 := F.fz1 (1 + p[k].toNat)
          have i1 : (k : Int) < (p.size : Int) - 1 := by omega
          have i2 : (k : Int) < p.size := by omega
          have x1 : IntKind.i64.wrap ((p.size : Int) - 1 - k) = (p.size : Int) - 1 - k := IntWalk.i64_in _ (by omega)
          have x2 : (p[k].toNat : Int) < 256 := by omega
          have F2 := Lib.hid (F.setBad _ hc ((p.size : Int) - 1 - k)).drew
          have B2 := (B.setCell (p := ⟨w.heap.size + 1, 1 + p[k].toNat, none⟩) (by simp) (.int .i64 ((p.size : Int) - 1 - k))).drew
          have U2 := Lib.hid (U.step hkp)
          clear F U
          go_wp2
          go_region
          go_wp2
          go_roundw
          case rel => exact ⟨k + 1, _, by omega, by go_num, F2.congr (fun c hc => by by_cases e : c = p[k].toNat <;> simp [e]; omega) (fun _ _ => rfl), U2.out, B2⟩
          case measure => simp [RowKit.intOf]; omega
        · obtain rfl : k = p.size - 1 := by omega
          have UB := Lib.hid U.bad
          have BU := Lib.hid (fun c => (U c.toNat c.toNat_lt).1 : ∀ c : UInt8, bad c.toNat ≤ p.size)
          clear U
          go_wp2
          obtain ⟨wp, rfl⟩ : ∃ wp : World, wp = wr := ⟨_, rfl⟩
          go_loopw [7, 8] (fun vl vi wr => ∃ (k lp : Nat) (far : Nat → Nat), k ≤ p.size ∧ vi = .int .i64 ((k : Int) - 1) ∧ vl = .int .i64 lp ∧ lp ≤ p.size ∧ (k = p.size ∨ BM.First (gb p) p.size k lp) ∧ Fin wr (w.heap.size + 1) w.heap.size p (fun c => (bad c : Int)) (fun j => if k ≤ j then (far j : Int) + (p.size - 1 - j : Nat) else 0) ∧ (∀ j, k ≤ j → j < p.size → BM.First (gb p) p.size j (far j)) ∧ Below w.heap.size w wr) (fun _ vi _ => ((RowKit.intOf vi) + 1).toNat)
          case atStart => exact ⟨p.size, p.size - 1, fun _ => 0, Nat.le_refl _, by congr 1, by congr 1; omega, by omega, .inl rfl, F.congr (fun _ _ => rfl) (fun j hj => by rw [if_neg (by omega)]), fun j h1 h2 => by omega, B⟩
          case round =>
            clear F B
            obtain ⟨k, lp, far, hk, rfl, rfl, hlp, hF, F, hfar, B⟩ := hrel
            by_cases hk1 : 1 ≤ k
            · have hpi := pre_iff p k hk
              have h1 := F.slot
              have h2 := F.goods (k - 1) (by omega)
              have h3 := F.fz2 (k - 1)
              rw [if_neg (by omega)] at h2
              cases hb : Lib.hasPrefix p.data.toList (p.extract k p.size).data.toList with
              | true =>
                have F2 := Lib.hid (F.setGood (k - 1) (by omega) ((k : Int) + ((p.size : Int) - 1) - ((k : Int) - 1)))
                have B2 := B.setCell (p := ⟨w.heap.size, k - 1, none⟩) (by simp) (.int .i64 ((k : Int) + ((p.size : Int) - 1) - ((k : Int) - 1)))
                have Fst : BM.First (gb p) p.size (k - 1) k := by
                  have := BM.first_hit (f := gb p) (m := p.size) (j := k - 1) (by omega)
                  rwa [show k - 1 + 1 = k by omega] at this
                have Hb := Lib.hid hb
                have Hfar := Lib.hid hfar
                clear hb hpi F hfar hF
                go_wp2_with (go_at_call 52; refine (hasPrefix_any _ _ (by omega) (by simp; omega) _).mono ?_; rintro e w' ⟨rfl, rfl⟩; rw [Hb.out])
                go_roundw
                case rel =>
                  refine ⟨k - 1, k, fun j => if j = k - 1 then k else far j, by omega, by congr 1; omega, rfl, by omega, .inr Fst, F2.out.congr (fun _ _ => rfl) (fun j hj => ?_), fun j h1 h2 => ?_, B2⟩
                  · by_cases e : j = k - 1
                    · subst e; simp; omega
                    · simp only [if_neg e]
                      by_cases e2 : k ≤ j
                      · rw [if_pos e2, if_pos (by omega)]
                      · rw [if_neg e2, if_neg (by omega)]
                  · by_cases e : j = k - 1
                    · subst e; simp; exact Fst
                    · simp only [if_neg e]; exact Hfar.out j (by omega) h2
                case measure => simp [RowKit.intOf]; omega
              | false =>
                have hnp : ¬ BM.isPre (gb p) p.size k := fun h => by rw [hpi.2 h] at hb; cases hb
                have hkm : k ≠ p.size := fun e => hnp (by rw [e]; exact BM.pre_end _ _)
                have Fst : BM.First (gb p) p.size (k - 1) lp := by
                  rcases hF with e | e
                  · exact absurd e hkm
                  · have := BM.first_miss (j := k - 1) (by rw [show k - 1 + 1 = k by omega]; exact e) (by rw [show k - 1 + 1 = k by omega]; exact hnp)
                    exact this
                have F2 := Lib.hid (F.setGood (k - 1) (by omega) ((lp : Int) + ((p.size : Int) - 1) - ((k : Int) - 1)))
                have B2 := B.setCell (p := ⟨w.heap.size, k - 1, none⟩) (by simp) (.int .i64 ((lp : Int) + ((p.size : Int) - 1) - ((k : Int) - 1)))
                have Hb := Lib.hid hb
                have Hfar := Lib.hid hfar
                clear hb hpi F hfar hF hnp hkm
                go_wp2_with (go_at_call 52; refine (hasPrefix_any _ _ (by omega) (by simp; omega) _).mono ?_; rintro e w' ⟨rfl, rfl⟩; rw [Hb.out])
                go_roundw
                case rel =>
                  refine ⟨k - 1, lp, fun j => if j = k - 1 then lp else far j, by omega, by congr 1; omega, rfl, by omega, .inr Fst, F2.out.congr (fun _ _ => rfl) (fun j hj => ?_), fun j h1 h2 => ?_, B2⟩
                  · by_cases e : j = k - 1
                    · subst e; simp; omega
                    · simp only [if_neg e]
                      by_cases e2 : k ≤ j
                      · rw [if_pos e2, if_pos (by omega)]
                      · rw [if_neg e2, if_neg (by omega)]
                  · by_cases e : j = k - 1
                    · subst e; simp; exact Fst
                    · simp only [if_neg e]; exact Hfar.out j (by omega) h2
                case measure => simp [RowKit.intOf]; omega
            · obtain rfl : k = 0 := by omega
              have I0 := BM.inv_zero (f := gb p) (m := p.size) (far := far) (fun j hj => hfar j (Nat.zero_le _) hj)
              have F1 : Fin wr (w.heap.size + 1) w.heap.size p (fun c => (bad c : Int)) (fun j => (far j : Int) + (p.size - 1 - j : Nat)) := F.congr (fun _ _ => rfl) (fun j hj => by rw [if_pos (by omega)])
              have Q1 : ∀ j, j < p.size → far j ≤ p.size := fun j hj => (hfar j (Nat.zero_le _) hj).2.1
              clear F hfar hF
              go_wp2
              obtain ⟨wq, rfl⟩ : ∃ wq : World, wq = wr := ⟨_, rfl⟩
              rw [show (((0 : Nat) : Int) - 1) = -1 from rfl]
              go_loopw [9, 10] (fun vi _ wr => ∃ (n : Nat) (far : Nat → Nat), n ≤ p.size - 1 ∧ vi = .int .i64 n ∧ Fin wr (w.heap.size + 1) w.heap.size p (fun c => (bad c : Int)) (fun j => (far j : Int) + (p.size - 1 - j : Nat)) ∧ BM.Inv (gb p) p.size n far ∧ (∀ j, j < p.size → far j ≤ p.size) ∧ Below w.heap.size w wr) (fun vi _ _ => p.size - (RowKit.intOf vi).toNat)
              case atStart => exact ⟨0, far, by omega, rfl, F1, I0, Q1, B⟩
              case round =>
                clear F1 I0 Q1 B
                obtain ⟨n, far, hn, rfl, F, I, Q, B⟩ := hrel
                by_cases hlt : n < p.size - 1
                · have i1 : (n : Int) < (p.size : Int) - 1 := by omega
                  have hsl : ∀ w, (Instr.slice 9 (.string p) (some (.int .i64 1)) (some (.int .i64 ((n : Int) + 1))) none).run Try.prog w = .ok (.string (p.extract 1 (n + 1))) w := fun w => by
                    rw [run_slice_string w 9 p .i64 .i64 _ _ Try.underlying9 (by omega) (by omega) (by omega)]
                    rfl
                  have Q2 := Lib.hid Q
                  have I2 := Lib.hid I
                  clear Q I
                  go_wp2_with (go_at_call 53; refine (lcs_any _ _ (by omega) (by simp; omega) _).mono ?_; rintro e w' ⟨L, rfl, hL, q, rfl⟩)
                  have hB := lcs_bm p n L (by omega) hL (by omega)
                  have l1 := hB.1
                  have F2 := F.drewN q
                  have B2 := below_drewN B q
                  clear F B hsl hL
                  generalize wr.drewN q = vq at *
                  have z1 : n - L < p.size := by omega
                  have z2 : p.size - 1 - L < p.size := by omega
                  have x1 : IntKind.i64.wrap ((n : Int) - L) = (n : Int) - L := IntWalk.i64_in _ (by omega)
                  have x2 : IntKind.i64.wrap ((p.size : Int) - 1 - L) = (p.size : Int) - 1 - L := IntWalk.i64_in _ (by omega)
                  have x3 := idx p ((n : Int) - L) (n - L) z1 (by omega)
                  have x4 := idx p ((p.size : Int) - 1 - L) (p.size - 1 - L) z2 (by omega)
                  have e1 := gb_eq p _ z1
                  have e2 := gb_eq p _ z2
                  have hne := byte_ne p[n - L] p[p.size - 1 - L]
                  by_cases hq : p[n - L] = p[p.size - 1 - L]
                  · have J := Lib.hid (BM.inv_miss I2.out (by omega) hB (by rw [e1, e2, hq]))
                    have hq' : ((p[n - L].toNat : Int) != (p[p.size - 1 - L].toNat : Int)) = false := by rw [hne, hq]; simp
                    clear hne hq e1 e2 hB
                    go_quiet (fail)
                    go_wp2
                    go_roundw
                    case rel => exact ⟨n + 1, far, by omega, by go_num, F2.drewN _, J.out, Q2.out, below_drewN B2 _⟩
                    case measure => simp [RowKit.intOf]; omega
                  · have J := Lib.hid (BM.inv_hit I2.out (by omega) hB)
                    have hq' : ((p[n - L].toNat : Int) != (p[p.size - 1 - L].toNat : Int)) = true := by rw [hne]; simpa using hq
                    have h1 := F2.slot
                    have h2 := F2.goods (p.size - 1 - L) (by omega)
                    have h3 := F2.fz2 (p.size - 1 - L)
                    have htn : ((p.size : Int) - 1 - L).toNat = p.size - 1 - L := by omega
                    clear hne hq e1 e2 hB
                    go_quiet (fail)
                    clear x3 x4
                    go_wp2
                    go_roundw
                    case rel =>
                      refine ⟨n + 1, fun j => if j = p.size - 1 - L then p.size - 1 - n else far j, by omega, by go_num, ((F2.drewN _).setGood (p.size - 1 - L) (by omega) _).congr (fun _ _ => rfl) (fun j hj => ?_), J.out, fun j hj => ?_, (below_drewN B2 _).setCell (by simp) _⟩
                      · by_cases e : j = p.size - 1 - L
                        · subst e; simp; omega
                        · simp [e]
                      · by_cases e : j = p.size - 1 - L
                        · simp [e]; omega
                        · simp [e]; exact Q2.out j hj
                    case measure => simp [RowKit.intOf]; omega
                · obtain rfl : n = p.size - 1 := by omega
                  have G := Lib.hid (fun j hj => BM.good_of_inv hp I j hj : ∀ j, j < p.size → BM.Good (gb p) p.size j (far j))
                  have Q2 := Lib.hid Q
                  clear Q I
                  go_wp2
                  go_ret
                  exact ⟨bad, far, rfl, ⟨F, UB.out, G.out, Q2.out, BU.out⟩, B⟩
end Go.Proofs.Yteajdljmbjdbkaa
