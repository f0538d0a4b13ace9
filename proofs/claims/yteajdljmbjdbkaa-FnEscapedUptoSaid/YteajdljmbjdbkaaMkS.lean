/- (*Replacer).build: bytes to texts. -/
import Derived.Test.YteajdljmbjdbkaaMkB
import Derived.Test.YteajdljmbjdbkaaApp
namespace Go.Proofs.Yteajdljmbjdbkaa
open Go.RowKit Go.Lib
set_option linter.unusedVariables false

theorem nodup_lt : ∀ (N : Nat) (l : List Nat), l.Nodup → (∀ x ∈ l, x < N) → l.length ≤ N
  | 0, l, _, h => by
    cases l with
    | nil => simp
    | cons x r => exact absurd (h x (by simp)) (Nat.not_lt_zero _)
  | N + 1, l, hn, h => by
    by_cases hm : N ∈ l
    · have h1 := nodup_lt N (l.erase N) (hn.erase N) (fun x hx => by
        have h2 := (List.Nodup.mem_erase_iff hn).1 hx
        have := h x h2.2
        omega)
      have h3 := List.length_erase_of_mem hm
      have h4 : 0 < l.length := List.length_pos_of_mem hm
      omega
    · have := nodup_lt N l hn (fun x hx => by
        have h1 := h x hx
        have h2 : x ≠ N := fun e => hm (e ▸ hx)
        omega)
      omega
/-- a row of bytes in a block of its own kind -/
def HeapRow (w : World) (x : Nat) (t : List UInt8) : Prop := ∃ cur fr, w.heap[x]? = some (.cells cur 5 fr) ∧ ∀ (j : Nat) (y : UInt8), t[j]? = some y → cur[j]? = some (.int .u8 (y.toNat : Int))
theorem HeapRow.same {w w' : World} {x : Nat} {t : List UInt8} (h : HeapRow w x t) (e : w'.heap[x]? = w.heap[x]?) : HeapRow w' x t := by
  obtain ⟨cur, fr, h1, h2⟩ := h
  exact ⟨cur, fr, e.trans h1, h2⟩
theorem HeapRow.lt {w : World} {x : Nat} {t : List UInt8} (h : HeapRow w x t) : x < w.heap.size := by
  obtain ⟨cur, fr, h1, _⟩ := h
  exact (Array.getElem?_eq_some_iff.1 h1).1
theorem HeapRow.cell {w : World} {x : Nat} {t : List UInt8} (h : HeapRow w x t) (j : Nat) (y : UInt8) (hj : t[j]? = some y) : w.cell? ((⟨x, 0, none⟩ : Addr).add j) = some (.int .u8 (y.toNat : Int)) := by
  obtain ⟨cur, fr, h1, h2⟩ := h
  rw [show (⟨x, 0, none⟩ : Addr).add j = ⟨x, j, none⟩ by unfold Addr.add; split <;> simp_all, Lib.cell_of_heap h1]
  exact h2 j y hj
/-- a byteStringReplacer while it is made -/
structure BsMk (w : World) (base rb : Nat) (F : UInt8 → Option (List UInt8)) (tv : Value) (ks : List UInt8) : Prop where
  blk : ∃ cs, w.heap[rb]? = some (.cells cs 119 (0, 0))
  no : ∀ c, F c = none → w.cell? ⟨rb, c.toNat, none⟩ = some (.slice none 0 0)
  yes : ∀ c t, F c = some t → ∃ (x cap : Nat), w.cell? ⟨rb, c.toNat, none⟩ = some (.slice (some ⟨x, 0, none⟩) t.length cap) ∧ HeapRow w x t ∧ base ≤ x
  list : w.cell? ⟨rb, 256, none⟩ = some tv
  own : w.ownsRow base 9 1 tv ks.length (ks.map fun k => Value.string (b1' k))
  nodup : ks.Nodup
/-- its list of bytes -/
def AllK (F : UInt8 → Option (List UInt8)) (ks : List UInt8) : Prop := ∀ c, F c ≠ none ↔ c ∈ ks
theorem BsMk.rows {w w' : World} {base rb : Nat} {F : UInt8 → Option (List UInt8)} {tv : Value} {ks : List UInt8} (h : BsMk w base rb F tv ks) (hrb : w'.heap[rb]? = w.heap[rb]?) (hrow : ∀ x t, HeapRow w x t → HeapRow w' x t)
    (hown : w'.ownsRow base 9 1 tv ks.length (ks.map fun k => Value.string (b1' k))) : BsMk w' base rb F tv ks := by
  have hc : ∀ o, w'.cell? ⟨rb, o, none⟩ = w.cell? ⟨rb, o, none⟩ := fun o => World.cell?_of_block (a := ⟨rb, o, none⟩) hrb
  obtain ⟨cs, hcs⟩ := h.blk
  exact ⟨⟨cs, hrb.trans hcs⟩, fun c hF => (hc _).trans (h.no c hF), fun c t hF => by
    obtain ⟨x, cap, h1, h2, h3⟩ := h.yes c t hF
    exact ⟨x, cap, (hc _).trans h1, hrow x t h2, h3⟩, (hc _).trans h.list, hown, h.nodup⟩
theorem BsMk.rlt {w : World} {base rb : Nat} {F : UInt8 → Option (List UInt8)} {tv : Value} {ks : List UInt8} (h : BsMk w base rb F tv ks) : rb < w.heap.size := by
  obtain ⟨cs, hcs⟩ := h.blk
  exact (Array.getElem?_eq_some_iff.1 hcs).1
theorem BsMk.alloc {w : World} {base rb : Nat} {F : UInt8 → Option (List UInt8)} {tv : Value} {ks : List UInt8} (h : BsMk w base rb F tv ks) (o : Obj) : BsMk (w.alloc o) base rb F tv ks :=
  h.rows (Below.heap_alloc w o rb h.rlt) (fun x t hr => hr.same (Below.heap_alloc w o x hr.lt)) (h.own.alloc o)
theorem BsMk.drewN {w : World} {base rb : Nat} {F : UInt8 → Option (List UInt8)} {tv : Value} {ks : List UInt8} (h : BsMk w base rb F tv ks) (n : Nat) : BsMk (w.drewN n) base rb F tv ks :=
  ⟨h.blk, h.no, h.yes, h.list, h.own, h.nodup⟩
theorem BsMk.drew {w : World} {base rb : Nat} {F : UInt8 → Option (List UInt8)} {tv : Value} {ks : List UInt8} (h : BsMk w base rb F tv ks) : BsMk w.drew base rb F tv ks :=
  ⟨h.blk, h.no, h.yes, h.list, h.own, h.nodup⟩
theorem heap_set (w : World) (b o : Nat) (v : Value) (cs : Array Value) (T : TypeId) (h : w.heap[b]? = some (.cells cs T (0, 0))) : ∃ cs', (w.setCell ⟨b, o, none⟩ v).heap[b]? = some (.cells cs' T (0, 0)) := by
  refine ⟨cs.setIfInBounds o v, ?_⟩
  simp [World.setCell, Array.getElem?_modify, h]
theorem row_ne {w : World} {x y : Nat} {t : List UInt8} (h : HeapRow w x t) {cs : Array Value} {T : TypeId} {fr : Nat × Nat} (hy : w.heap[y]? = some (.cells cs T fr)) (hT : T ≠ 5) : x ≠ y := by
  rintro rfl
  obtain ⟨cur, fr', h1, _⟩ := h
  rw [h1] at hy
  simp only [Option.some.injEq, Obj.cells.injEq] at hy
  exact hT hy.2.1.symm
theorem row_own {w : World} {x base n : Nat} {t : List UInt8} (h : HeapRow w x t) {v : Value} {xs : List Value} (hown : w.ownsRow base 9 1 v n xs) : some x ≠ v.ownBlock := by
  obtain ⟨cur, fr', h1, _⟩ := h
  exact fun e => Lib.ownBlock_ne hown h1 (by decide) e.symm
/-- the row of bytes that is told grows by one: 'r.toReplace = append(r.toReplace, ..)' -/
theorem BsMk.app {w w2 : World} {base rb : Nat} {F : UInt8 → Option (List UInt8)} {tv tv2 : Value} {ks : List UInt8} (h : BsMk w base rb F tv ks) (hg : w.grownBy w2 tv.ownBlock) (o : UInt8) (ho : o ∉ ks)
    (hown : w2.ownsRow base 9 1 tv2 (ks.length + 1) ((ks.map fun k => Value.string (b1' k)) ++ [.string (b1' o)])) :
    BsMk (w2.setCell ⟨rb, 256, none⟩ tv2) base rb F tv2 (ks ++ [o]) ∧ w2.cell? ⟨rb, 256, none⟩ = some tv ∧ w2.frozen? ⟨rb, 256, none⟩ = false := by
  obtain ⟨cs, hcs⟩ := h.blk
  have hne : some rb ≠ tv.ownBlock := fun e => Lib.ownBlock_ne h.own hcs (by decide) e.symm
  have hrb2 : w2.heap[rb]? = some (.cells cs 119 (0, 0)) := (hg.block rb h.rlt hne).trans hcs
  have hc2 : ∀ o, w2.cell? ⟨rb, o, none⟩ = w.cell? ⟨rb, o, none⟩ := fun o => World.cell?_of_block (a := ⟨rb, o, none⟩) (hrb2.trans hcs.symm)
  have hc3 : ∀ c : UInt8, (w2.setCell ⟨rb, 256, none⟩ tv2).cell? ⟨rb, c.toNat, none⟩ = w.cell? ⟨rb, c.toNat, none⟩ := fun c => by
    rw [World.cell?_setCell_other _ _ _ _ (by intro e; injection e with _ e2; have := c.toNat_lt; omega), hc2]
  have hl2 : w2.cell? ⟨rb, 256, none⟩ = some tv := (hc2 256).trans h.list
  have hne2 : tv2.ownBlock ≠ some rb := Lib.ownBlock_ne hown hrb2 (by decide)
  refine ⟨⟨heap_set w2 rb 256 tv2 cs _ hrb2, fun c hF => (hc3 c).trans (h.no c hF), fun c t hF => ?_, World.cell?_setCell_same _ _ _ hl2, ?_, ?_⟩, hl2, Lib.frozen_of_heap hrb2 256⟩
  · obtain ⟨x, cap, h1, h2, h4⟩ := h.yes c t hF
    refine ⟨x, cap, (hc3 c).trans h1, ?_, h4⟩
    have hx := row_ne h2 hcs (by decide)
    have h3 : HeapRow w2 x t := h2.same (hg.block x h2.lt (row_own h2 h.own))
    exact h3.same (Below.heap_setCell w2 ⟨rb, 256, none⟩ tv2 x hx)
  · rw [List.length_append, List.map_append]
    exact World.ownsRow.kept hown (row := some rb) ⟨rfl, rfl, rfl, by simp [World.setCell], fun k _ hk => Below.heap_setCell _ _ _ _ (fun e => hk (by simp [e]))⟩ (Or.inr hne2)
  · rw [List.nodup_append]
    exact ⟨h.nodup, by simp, fun a ha b hb => by rw [List.mem_singleton.1 hb]; exact fun e => ho (e ▸ ha)⟩
/-- a byte's text is laid -/
theorem BsMk.put {w : World} {base rb : Nat} {F : UInt8 → Option (List UInt8)} {tv : Value} {ks : List UInt8} (h : BsMk w base rb F tv ks) (o : UInt8) (t : List UInt8) (x cap : Nat) (hx : HeapRow w x t) (hbx : base ≤ x) :
    BsMk (w.setCell ⟨rb, o.toNat, none⟩ (.slice (some ⟨x, 0, none⟩) t.length cap)) base rb (fun c => if o = c then some t else F c) tv ks := by
  obtain ⟨cs, hcs⟩ := h.blk
  have hne : tv.ownBlock ≠ some rb := Lib.ownBlock_ne h.own hcs (by decide)
  have hco : ∃ v, w.cell? ⟨rb, o.toNat, none⟩ = some v := by
    cases hF : F o with
    | none => exact ⟨_, h.no o hF⟩
    | some t => obtain ⟨x, cap, h1, _⟩ := h.yes o t hF; exact ⟨_, h1⟩
  obtain ⟨v0, hv0⟩ := hco
  have hrow : ∀ y t2, HeapRow w y t2 → HeapRow (w.setCell ⟨rb, o.toNat, none⟩ (.slice (some ⟨x, 0, none⟩) t.length cap)) y t2 := fun y t2 hy => hy.same (Below.heap_setCell w _ _ y (row_ne hy hcs (by decide)))
  have hoth : ∀ c : UInt8, o ≠ c → (w.setCell ⟨rb, o.toNat, none⟩ (.slice (some ⟨x, 0, none⟩) t.length cap)).cell? ⟨rb, c.toNat, none⟩ = w.cell? ⟨rb, c.toNat, none⟩ := fun c hc => by
    rw [World.cell?_setCell_other _ _ _ _ (by intro e; injection e with _ e2; exact hc (UInt8.toNat_inj.1 e2))]
  refine ⟨heap_set w rb _ _ cs _ hcs, fun c hF => ?_, fun c t2 hF => ?_, ?_, ?_, h.nodup⟩
  · by_cases e : o = c
    · simp [e] at hF
    · simp only [if_neg e] at hF
      rw [hoth c e]; exact h.no c hF
  · by_cases e : o = c
    · subst e
      simp only [if_pos] at hF
      obtain rfl := Option.some.inj hF
      exact ⟨x, cap, World.cell?_setCell_same _ _ _ hv0, hrow x t hx, hbx⟩
    · simp only [if_neg e] at hF
      obtain ⟨y, cap2, h1, h2, h3⟩ := h.yes c t2 hF
      exact ⟨y, cap2, (hoth c e).trans h1, hrow y t2 h2, h3⟩
  · rw [World.cell?_setCell_other _ _ _ _ (by intro e; injection e with _ e2; have := o.toNat_lt; omega)]; exact h.list
  · exact World.ownsRow.kept h.own (row := some rb) ⟨rfl, rfl, rfl, by simp [World.setCell], fun k _ hk => Below.heap_setCell _ _ _ _ (fun e => hk (by simp [e]))⟩ (Or.inr hne)
theorem AllK.put {F : UInt8 → Option (List UInt8)} {ks ks' : List UInt8} (h : AllK F ks) (o : UInt8) (t : List UInt8) (hk : ∀ c, c ∈ ks' ↔ c ∈ ks ∨ c = o) : AllK (fun c => if o = c then some t else F c) ks' := fun c => by
  rw [hk]
  by_cases e : o = c
  · subst e; simp
  · simp only [if_neg e]
    rw [h c]
    exact ⟨.inl, fun h => h.elim id (fun h => absurd h.symm e)⟩
theorem conv_row (w : World) (s : ByteArray) (cap : Nat) (fr : Nat × Nat) : HeapRow (w.alloc (.cells (bytesRow s cap) 5 fr)).drew w.heap.size s.data.toList := by
  refine ⟨bytesRow s cap, fr, heap_alloc_new w _, fun j y hj => ?_⟩
  have hj2 : j < s.size := by
    have := (List.getElem?_eq_some_iff.1 hj).1
    simpa using this
  rw [bytesRow_at s cap j (by simpa using hj2)]
  rw [data_getElem? s j hj2] at hj
  rw [← Option.some.inj hj]
  rfl
theorem BsMk.store {w : World} {base rb : Nat} {F : UInt8 → Option (List UInt8)} {tv : Value} {ks : List UInt8} (h : BsMk w base rb F tv ks) (o : UInt8) (s : ByteArray) (cap : Nat) (fr : Nat × Nat) (hbw : base ≤ w.heap.size) :
    BsMk (((w.setCell ⟨rb, o.toNat, none⟩ (.slice (some ⟨w.heap.size, 0, none⟩) s.size cap)).alloc (.cells (bytesRow s cap) 5 fr)).drew) base rb (fun c => if o = c then some s.data.toList else F c) tv ks := by
  have h1 := ((h.alloc (.cells (bytesRow s cap) 5 fr)).drew).put o s.data.toList w.heap.size cap (conv_row w s cap fr) hbw
  rw [show s.data.toList.length = s.size by simp] at h1
  have e := World.setCell_alloc_past (w := w) (.cells (bytesRow s cap) 5 fr) rb o.toNat (.slice (some ⟨w.heap.size, 0, none⟩) s.size cap) h.rlt
  rw [← e]
  exact h1
theorem BsMk.fz {w : World} {base rb : Nat} {F : UInt8 → Option (List UInt8)} {tv : Value} {ks : List UInt8} (h : BsMk w base rb F tv ks) (o : Nat) : w.frozen? ⟨rb, o, none⟩ = false := by
  obtain ⟨cs, hcs⟩ := h.blk
  exact Lib.frozen_of_heap hcs o
/-- made: as Replace reads it -/
theorem BsMk.done {w : World} {base rb : Nat} {F : UInt8 → Option (List UInt8)} {tv : Value} {ks : List UInt8} (h : BsMk w base rb F tv ks) (hall : AllK F ks) (hrb : base ≤ rb) : ∃ a, ∀ w2, AgreeOn base w.heap.size w w2 → ∀ w', Below w.heap.size w2 w' → BsAt w' rb F a ks := by
  obtain ⟨a, n, c, hform⟩ : ∃ a n c, tv = .slice a n c := by
    rcases h.own.2 with ⟨h1, _⟩ | ⟨g, cap, cur, h1, _⟩
    · exact ⟨_, _, _, h1⟩
    · exact ⟨_, _, _, h1⟩
  subst hform
  have hn : n = ks.length := by
    rcases h.own.2 with ⟨h1, h2⟩ | ⟨g, cap, cur, h1, _⟩
    · injection h1 with e1 e2 e3; omega
    · injection h1
  subst hn
  refine ⟨a, fun w2 ha w' hb' => ⟨fun c hF => ?_, fun c t hF => ?_, ⟨c, ?_⟩, fun i hi => ?_, h.nodup, ?_, hall⟩⟩
  · rw [hb'.cell (p := ⟨rb, c.toNat, none⟩) h.rlt, ha.cell hrb h.rlt]; exact h.no c hF
  · obtain ⟨x, cap, h1, h2, h3⟩ := h.yes c t hF
    refine ⟨⟨x, 0, none⟩, cap, by rw [hb'.cell (p := ⟨rb, c.toNat, none⟩) h.rlt, ha.cell hrb h.rlt]; exact h1, fun j y hj => ?_⟩
    exact (h2.same ((hb'.block x h2.lt).trans (ha x h3 h2.lt))).cell j y hj
  · rw [hb'.cell (p := ⟨rb, 256, none⟩) h.rlt, ha.cell hrb h.rlt]; exact h.list
  · rcases h.own.2 with ⟨h1, h2⟩ | ⟨g, cap, cur, h1, hbg, hg, _⟩
    · omega
    · injection h1 with e1 e2 e3
      refine ⟨⟨g, 0, none⟩, e1, ?_⟩
      have := World.ownsRow.cells h.own (g := g) (by rw [e1]; rfl) i (.string (b1' ks[i])) (by simp [hi])
      rw [hb'.cell (by rw [add_block]; exact (Array.getElem?_eq_some_iff.1 hg).1)]
      rw [show (⟨g, 0, none⟩ : Addr).add i = ⟨g, i, none⟩ by unfold Addr.add; split <;> simp_all] at this ⊢
      rw [ha.cell hbg (Array.getElem?_eq_some_iff.1 hg).1]
      exact this
  · have hle : ks.length ≤ 256 := by
      have h1 : (ks.map UInt8.toNat).Nodup := List.Pairwise.map UInt8.toNat (fun a b hab e => hab (UInt8.toNat_inj.1 e)) h.nodup
      have h2 : ∀ x ∈ ks.map UInt8.toNat, x ∈ List.range 256 := fun x hx => by
        obtain ⟨c, _, rfl⟩ := List.mem_map.1 hx
        exact List.mem_range.2 c.toNat_lt
      have h3 := nodup_lt 256 _ h1 (fun x hx => List.mem_range.1 (h2 x hx))
      simpa using h3
    omega
/-- 'append(out, z)', texts, the new block's number said apart -/
theorem app_strG {ops : Array Oper} {rest : List Oper} {o : Oper} {a : Act} {Q : Exit → Act → World → Prop} (hgd : o.guard = none) (s x : Operand)
    (ho : o.op = .call { callee := .builtin .append, args := #[s, x], argTypes := #[22, 22] })
    (wr : World) (g : Nat) (hg : wr.heap.size = g) (base n : Nat) (v : Value) (xs : List Value) (z : ByteArray) (hs : a.eval s = v) (hx : a.eval x = .slice (some ⟨g, 0, none⟩) 1 1)
    (hown : wr.ownsRow base 9 1 v n xs) (hn : n ≤ 1099511627776) (hb : base ≤ wr.heap.size)
    (h : ∀ v' w', w'.ownsRow base 9 1 v' (n + 1) (xs ++ [.string z]) → (wr.alloc (.cells #[.string z] 9)).grownBy w' v.ownBlock → wpList Try.prog ops Q rest (a.put o.dst v') w') :
    wpList Try.prog ops Q (o :: rest) a (wr.alloc (.cells #[.string z] 9)) := by
  subst hg
  exact app_str hgd s x ho wr base n v xs z hs hx hown hn hb h
def bsCells (v : Value) : Array Value := Array.replicate 256 (.slice none 0 0) ++ #[v]
theorem bsCells_at (v : Value) (k : Nat) (hk : k < 256) : (bsCells v)[k]? = some (.slice none 0 0) := by
  unfold bsCells
  rw [Array.getElem?_append_left (by simpa using hk)]
  simp [hk]
theorem bsCells_last (v : Value) : (bsCells v)[256]? = some v := by
  unfold bsCells
  rw [Array.getElem?_append_right (by simp)]
  simp
theorem bsCells_size (v : Value) : (bsCells v).size = 257 := by simp [bsCells]
theorem all_rep (n : Nat) (v : Value) (p : Value → Bool) (h : p v = true) : (Array.replicate n v).all p = true := by
  rw [Array.all_eq_true]
  intro i hi
  simp [h]
theorem bsCells_one (a : Option Addr) (n c : Nat) : (bsCells (.slice a n c)).all (·.oneCell') = true := by
  unfold bsCells
  rw [Array.all_append, Bool.and_eq_true]
  exact ⟨all_rep _ _ _ rfl, by simp [Value.oneCell']⟩
set_option maxRecDepth 100000 in
theorem zero_bs : Try.zeroCells119 = bsCells (.slice none 0 0) := by kernel_rfl
theorem bs_built (v : Value) : (bsCells (.slice none 0 0)).setIfInBounds 256 v = bsCells v := by
  apply Array.ext_getElem?
  intro i
  rw [Array.getElem?_setIfInBounds, bsCells_size]
  by_cases e : 256 = i
  · subst e; rw [bsCells_last v]; simp
  · rw [if_neg e]
    by_cases h : i < 256
    · rw [bsCells_at _ i h, bsCells_at _ i h]
    · rw [Array.getElem?_eq_none (by rw [bsCells_size]; omega), Array.getElem?_eq_none (by rw [bsCells_size]; omega)]
theorem infoBs (v : Value) : (Try.prog.info? 119).map (·.size) = some (bsCells v).size := by rw [bsCells_size]; kernel_rfl
theorem BsMk.new (w : World) (n : Nat) (hn : n ≤ maxLen) : BsMk ((w.alloc (.cells (madeCells #[.string ⟨#[]⟩] n) 9)).alloc (.cells (bsCells (.slice (some ⟨w.heap.size, 0, none⟩) 0 n)) 119)) w.heap.size (w.heap.size + 1) (fun _ => none) (.slice (some ⟨w.heap.size, 0, none⟩) 0 n) [] := by
  have hc : ∀ o, ((w.alloc (.cells (madeCells #[.string ⟨#[]⟩] n) 9)).alloc (.cells (bsCells (.slice (some ⟨w.heap.size, 0, none⟩) 0 n)) 119)).cell? ⟨w.heap.size + 1, o, none⟩ = (bsCells (.slice (some ⟨w.heap.size, 0, none⟩) 0 n))[o]? := fun o => World.cell?_alloc_at _ _ _ _ (by simp)
  refine ⟨⟨_, heap_alloc2_new w _ _⟩, fun c _ => (hc _).trans (bsCells_at _ _ c.toNat_lt), (fun c t h => by cases h), (hc _).trans (bsCells_last _), ?_, List.nodup_nil⟩
  exact (World.ownsRow_made w (madeCells #[.string ⟨#[]⟩] n) n (Nat.le_refl _) hn (by simp [madeCells])).alloc _
theorem run_str1 (w : World) (o : UInt8) (T : TypeId) : (convert 44 9 (.slice (some ⟨w.heap.size, 0, none⟩) 1 1)).run Try.prog (w.alloc (.cells #[.int .u8 (o.toNat : Int)] T)) = .ok (.string (b1' o)) (w.alloc (.cells #[.int .u8 (o.toNat : Int)] T)) := by
  have := run_convert_bytes_back (P := Try.prog) (w.alloc (.cells #[.int .u8 (o.toNat : Int)] T)) 44 9 5 ⟨w.heap.size, 0, none⟩ 1 [o] Try.underlying44 Try.underlying5 Try.underlying9 (fun j hj => by
    have hj0 : j = 0 := by simpa using hj
    subst hj0
    rw [show (⟨w.heap.size, 0, none⟩ : Addr).add 0 = ⟨w.heap.size, 0, none⟩ from rfl, World.cell?_alloc_at _ _ _ _ rfl]
    rfl)
  simpa [b1'] using this
def S4 (w : World) (n : Nat) (l : List ByteArray) (v : Value) (wr : World) : Prop :=
  ∃ (q : Nat) (tv : Value) (ks : List UInt8), v = .int .i64 (2 * (q : Int) - 2) ∧ q ≤ n ∧ BsMk wr w.heap.size (w.heap.size + 1) (fS ((prs l).drop q)) tv ks ∧ AllK (fS ((prs l).drop q)) ks ∧ Below w.heap.size w wr
theorem ks_le {w : World} {base rb : Nat} {F : UInt8 → Option (List UInt8)} {tv : Value} {ks : List UInt8} (h : BsMk w base rb F tv ks) : ks.length ≤ 256 := by
  have h1 : (ks.map UInt8.toNat).Nodup := List.Pairwise.map UInt8.toNat (fun a b hab e => hab (UInt8.toNat_inj.1 e)) h.nodup
  have h2 : ∀ x ∈ ks.map UInt8.toNat, x ∈ List.range 256 := fun x hx => by
    obtain ⟨c, _, rfl⟩ := List.mem_map.1 hx
    exact List.mem_range.2 c.toNat_lt
  have h3 := nodup_lt 256 _ h1 (fun x hx => List.mem_range.1 (h2 x hx))
  simpa using h3
set_option maxHeartbeats 8000000 in
set_option maxRecDepth 100000 in
theorem build_bytes (rr n cap : Nat) (a : Option Addr) (l : List ByteArray) (w : World) (hc : w.cell? ⟨rr, 1, none⟩ = some (.slice a (2 * n) cap)) (hl : l.length = 2 * n) (hs : StrsAt w w.heap.size a l) (hn : 2 * n ≤ 2147483647) (hk : ∀ s ∈ l, s.size ≤ 2147483647)
    (hone : OldsOne l n) (k0 : Nat) (hk0 : k0 < n) (hnew : NewsOne l k0) (hne : (l.getD (2 * k0 + 1) ⟨#[]⟩).size ≠ 1) :
    Calls Try.prog 65 #[.pointer (some ⟨rr, 0, none⟩)] w (MkPost w l n) := by
  have q44 : ∀ (w : World) (a : Option Addr) (n c n' c' : Nat), (binOp .eql 44 (.slice a n c) (.slice none n' c')).run Try.prog w = .ok (.bool a.isNone) w := fun w a n c n' c' => Lib.run_eql_slice_nil w _ _ a n c n' c' Try.underlying44
  have HS := Lib.hid hs
  have HL := Lib.hid hl
  have HK := Lib.hid hk
  have HONE := Lib.hid hone
  have HNEW := Lib.hid hnew
  have HNE := Lib.hid hne
  have hzb := zero_bs
  have hbb := bs_built
  have hz0 : n = 1 → ∃ x z, a = some x ∧ w.cell? x = some (.string z) ∧ z.size = 1 := fun h => by
    obtain ⟨x, h1, _, h2⟩ := hs 0 (by omega)
    rw [show x.add 0 = x by unfold Addr.add; split <;> simp_all] at h2
    refine ⟨x, _, h1, h2, ?_⟩
    have := hone 0 (by omega)
    simpa [List.getD, show 0 < l.length by omega] using this
  have HZ0 := Lib.hid hz0
  have hways : ((2 * (n : Int)) == 2) = false ∨ n = 1 := by
    by_cases e : n = 1
    · exact .inr e
    · exact .inl (beq_eq_false_iff_ne.2 (by omega))
  have HW := Lib.hid hways
  clear hs hl hk hone hnew hne hz0 hways
  go_enter Try.func65, Try.ntmps65
  have pre : ((2 * (n : Int)) == 2) = false ∨ ∃ (x : Addr) (z : ByteArray), a = some x ∧ w.cell? x = some (.string z) ∧ ((2 * (n : Int)) == 2) = true ∧ (z.size : Int) ≤ 1 ∧ (2 : Int) ≤ 2 * (n : Int) := by
    rcases HW.out with h | h
    · exact .inl h
    · obtain ⟨x, z, h1, h2, h3⟩ := HZ0.out h
      exact .inr ⟨x, z, h1, h2, by rw [h]; rfl, by omega, by omega⟩
  clear HW HZ0
  rcases pre with h1 | ⟨x, z, rfl, hcx, h1, h2, h3⟩
  all_goals
    go_wp2_with fail
    go_loop [4, 5] (fun v4 v5 => ∃ (j : Nat) (b : Bool), j ≤ n ∧ v5 = .int .i64 (2 * (j : Int)) ∧ v4 = .bool b ∧ (k0 < j → b = false)) (fun _ v5 => 2 * n - (RowKit.intOf v5).toNat)
    case atStart => exact ⟨0, true, Nat.zero_le _, rfl, rfl, fun h => by omega⟩
    case round =>
      obtain ⟨j, b, hj, rfl, rfl, hb⟩ := hrel
      have HBF := Lib.hid hb
      clear hb
      by_cases hlt : j < n
      · have hjl : 2 * j < l.length := by have := HL.out; omega
        have hjl2 : 2 * j + 1 < l.length := by have := HL.out; omega
        obtain ⟨y, hy, _, hcy⟩ := HS.out (2 * j) hjl
        first | subst hy | (obtain rfl := Option.some.inj hy; clear hy)
        obtain ⟨y', hy', _, hcy'⟩ := HS.out (2 * j + 1) hjl2
        obtain rfl := Option.some.inj hy'
        rw [Addr.add_succ'] at hcy'
        have e1 : 2 * (j : Int) < 2 * (n : Int) := by omega
        have e2 : 2 * (j : Int) + 1 < 2 * (n : Int) := by omega
        have hd : ((l[2 * j].size : Int) != 1) = false := by
          have h3 := HONE.out j hlt
          rw [show l.getD (2 * j) ⟨#[]⟩ = l[2 * j] by simp [List.getD, hjl]] at h3
          rw [h3]; rfl
        have hz1 : l[2 * j].size ≤ 2147483647 := HK.out _ (List.getElem_mem _)
        have hz2 : l[2 * j + 1].size ≤ 2147483647 := HK.out _ (List.getElem_mem _)
        have HN0 : Hid (j = k0 → l[2 * j + 1].size ≠ 1) := Lib.hid (fun e => by
          have h3 := HNE.out
          rw [← e, show l.getD (2 * j + 1) ⟨#[]⟩ = l[2 * j + 1] by simp [List.getD, hjl2]] at h3
          exact h3)
        generalize l[2 * j] = k1 at *
        generalize l[2 * j + 1] = k2 at *
        clear hy'
        by_cases hv : k2.size = 1
        · have hd2 : ((k2.size : Int) != 1) = false := by rw [hv]; rfl
          have HV := Lib.hid hv
          clear hv
          go_wp2_with fail
          go_round
          case rel => exact ⟨j + 1, b, by omega, by go_num, rfl, fun h => HBF.out (by
            by_cases e : j = k0
            · exact absurd HV.out (HN0.out e)
            · omega)⟩
          case measure => simp [RowKit.intOf]; omega
        · have hd2 : ((k2.size : Int) != 1) = true := bne_iff_ne.2 (by omega)
          clear hv
          go_wp2_with fail
          go_round
          case rel => exact ⟨j + 1, false, by omega, by go_num, rfl, fun _ => rfl⟩
          case measure => simp [RowKit.intOf]; omega
      · obtain rfl : j = n := by omega
        obtain rfl : b = false := HBF.out hk0
        have e1 : ¬ (2 * (j : Int) < 2 * (j : Int)) := by omega
        clear hlt hc HBF
        have hmk : (Instr.makeSlice 22 (.int .i64 0) (.int .i64 (j : Int))).run Try.prog w =
            .ok (.slice (some ⟨w.heap.size, 0, none⟩) 0 j) (w.alloc (.cells (madeCells #[.string ⟨#[]⟩] j) 9)) := by
          obtain ⟨i0, hi, hz0, hz1, hz2⟩ := info_parts infoStr
          have h := run_make (P := Try.prog) w 22 9 i0 (.string ⟨#[]⟩) Try.underlying22 hi hz0 .i64 .i64 0 (j : Int) (by omega) (by omega) (by rw [hz2]; omega) (by omega)
          simpa [hz1, Value.cells] using h
        have hst := run_storeCells_new (P := Try.prog) (w.alloc (.cells (madeCells #[.string ⟨#[]⟩] j) 9)) 119 (bsCells (.slice none 0 0)) (bsCells (.slice (some ⟨w.heap.size, 0, none⟩) 0 j)) (infoBs _) (by rw [bsCells_size, bsCells_size]) (bsCells_one _ _ _)
        have hhs : (w.alloc (.cells (madeCells #[.string ⟨#[]⟩] j) 9)).heap.size = w.heap.size + 1 := by simp
        rw [hhs] at hst
        clear hhs
        go_wp2_with fail
        have HM0 := Lib.hid (BsMk.new w j (by unfold maxLen; omega))
        have HB0 := Lib.hid (((Below.refl _ w).alloc (Nat.le_refl w.heap.size) (.cells (madeCells #[.string ⟨#[]⟩] j) 9)).alloc (by simp) (.cells (bsCells (.slice (some ⟨w.heap.size, 0, none⟩) 0 j)) 119))
        clear hmk hst hzb hbb
        generalize (w.alloc (.cells (madeCells #[.string ⟨#[]⟩] j) 9)).alloc (.cells (bsCells (.slice (some ⟨w.heap.size, 0, none⟩) 0 j)) 119) = w0 at HM0 HB0 ⊢
        go_loopw [12, 13, 14] (fun v _ _ wr => S4 w j l v wr) (fun v _ _ _ => ((RowKit.intOf v) + 2).toNat)
        case atStart =>
          refine ⟨j, .slice (some ⟨w.heap.size, 0, none⟩) 0 j, [], rfl, Nat.le_refl _, ?_, ?_, HB0.out⟩
          · rw [List.drop_eq_nil_of_le (by rw [prs_length]; have := HL.out; omega)]; exact HM0.out
          · rw [List.drop_eq_nil_of_le (by rw [prs_length]; have := HL.out; omega)]; exact fun c => by simp [fS]
        case round =>
          clear HM0 HB0
          obtain ⟨q, tv, ks, rfl, hq, T, hall, B⟩ := hrel
          cases q with
          | zero =>
            obtain ⟨ar, hdone⟩ := T.done hall (by simp)
            have HD := Lib.hid hdone
            have i1 : ¬ (0 : Int) ≤ 2 * ((0 : Nat) : Int) - 2 := by omega
            have i2 : ¬ (0 : Int) ≤ -2 := by omega
            clear T hall hdone
            go_wp2_with fail
            go_ret
            refine ⟨_, rfl, fun w2 ha => .bytes (HD.out w2 ha) (rep_fS (olds_prs HL.out HONE.out)) (fun c t hF => ?_), B⟩
            rw [List.drop_zero] at hF
            unfold fS at hF
            obtain ⟨p, hp, rfl⟩ := Option.map_eq_some_iff.1 hF
            obtain ⟨i, hi, rfl⟩ := prs_mem l p (List.mem_of_find?_eq_some hp)
            exact ⟨i, hi, rfl⟩
          | succ k =>
            have hkl : 2 * k < l.length := by have := HL.out; omega
            have hkl2 : 2 * k + 1 < l.length := by have := HL.out; omega
            obtain ⟨y, hy, _, hcy⟩ := HS.out.below B (2 * k) hkl
            first | subst hy | (obtain rfl := Option.some.inj hy; clear hy)
            obtain ⟨y', hy', _, hcy'⟩ := HS.out.below B (2 * k + 1) hkl2
            obtain rfl := Option.some.inj hy'
            rw [Addr.add_succ'] at hcy'
            have e1 : 2 * (k : Int) < 2 * (j : Int) := by omega
            have e2 : 2 * (k : Int) + 1 < 2 * (j : Int) := by omega
            have e3 : (0 : Int) ≤ 2 * (k : Int) := by omega
            have hz1 : l[2 * k].size = 1 := by
              have h3 := HONE.out k (by omega)
              rwa [show l.getD (2 * k) ⟨#[]⟩ = l[2 * k] by simp [List.getD, hkl]] at h3
            have hz2 : l[2 * k + 1].size ≤ 2147483647 := HK.out _ (List.getElem_mem _)
            have hsp := byte_split HL.out (by omega : k < j) hz1
            have hp1 : 0 < l[2 * k].size := by omega
            have hp1' : (0 : Int) < l[2 * k].size := by omega
            have i5 : (l[2 * k][0].toNat : Int) < 256 := by have := l[2 * k][0].toNat_lt; omega
            have hF' : fS ((prs l).drop k) = fun c => if l[2 * k][0] = c then some l[2 * k + 1].data.toList else fS ((prs l).drop (k + 1)) c := by
              funext c
              rw [hsp, fS_cons]
            have HF' := Lib.hid hF'
            have hcv := hconv
            have hrlt := T.rlt
            have hkle := ks_le T
            have HT := Lib.hid T
            have HALL := Lib.hid hall
            rw [show (2 * ((k + 1 : Nat) : Int) - 2) = 2 * (k : Int) by push_cast; omega]
            have hvl : l[2 * k + 1].data.toList.length = l[2 * k + 1].size := by simp
            have HVL := Lib.hid hvl
            have hBs := B.size
            have hlist := T.list
            clear hsp hF' hz1 T hall hvl hy'
            cases hFo : fS ((prs l).drop (k + 1)) l[2 * k][0] with
            | some t0 =>
              obtain ⟨x0, cap0, hco, _, _⟩ := HT.out.yes _ t0 hFo
              have hmem := (HALL.out l[2 * k][0]).1 (by rw [hFo]; simp)
              have HMEM := Lib.hid hmem
              have hfo := HT.out.fz l[2 * k][0].toNat
              clear hFo hmem hlist
              go_wp2_with fail
              refine ⟨⟨k, tv, ks, by go_num, by omega, ?_, ?_, ?_⟩, by simp [RowKit.intOf]; omega⟩
              · rw [HF'.out]; exact HT.out.store _ _ _ _ hBs
              · rw [HF'.out]; exact HALL.out.put _ _ (fun c => ⟨.inl, fun h => h.elim id (fun h => h ▸ HMEM.out)⟩)
              · exact ((B.setCell (p := ⟨w.heap.size + 1, l[2 * k][0].toNat, none⟩) (by simp) _).alloc (by simpa using hBs) _).drew
            | none =>
              have hco := HT.out.no _ hFo
              have hnm : l[2 * k][0] ∉ ks := fun h => ((HALL.out _).2 h) hFo
              have HNM := Lib.hid hnm
              have hs1 := run_str1 wr l[2 * k][0] 5
              have HFO := Lib.hid hFo
              clear hFo hnm
              go_upto_region 34 with (at_builtin; refine app_strG (by rfl) _ _ (by rfl) (wr.alloc (.cells #[.int .u8 (l[2 * k][0].toNat : Int)] 5)) (wr.heap.size + 1) (by simp) w.heap.size ks.length tv (ks.map fun k => Value.string (b1' k)) (b1' l[2 * k][0]) (by rfl) (by rfl) (HT.out.own.alloc _) (by omega) (by simp; omega) ?_; intro tv2 w2 hown2 hgr; obtain ⟨ao2, n2, c2, rfl⟩ : ∃ a n c, tv2 = .slice a n c := (by rcases hown2.2 with ⟨h1, _⟩ | ⟨g, cap, cur, h1, _⟩; exact ⟨_, _, _, h1⟩; exact ⟨_, _, _, h1⟩); obtain ⟨hM2, hl2, hf2⟩ := ((HT.out.alloc _).alloc _).app hgr _ HNM.out hown2; have HM2 := Lib.hid hM2; have HG2 := Lib.hid hgr; clear hM2 hgr hown2)
              have hB3 : Below w.heap.size w (w2.setCell ⟨w.heap.size + 1, 256, none⟩ (.slice ao2 n2 c2)) :=
                (((B.alloc hBs _).alloc (by simp; omega) _).grown HG2.out (by simp; omega) (fun k hk => (HT.out.own.lt k hk).1)).setCell (p := ⟨w.heap.size + 1, 256, none⟩) (by simp) _
              have HB3 := Lib.hid hB3
              clear hB3 HG2 hl2 hf2 hs1 hco hlist hcy hcy'
              generalize w2.setCell ⟨w.heap.size + 1, 256, none⟩ (.slice ao2 n2 c2) = w3 at HM2 HB3 ⊢
              have hco3 := HM2.out.no _ HFO.out
              have hfo3 := HM2.out.fz l[2 * k][0].toNat
              have hBs3 := HB3.out.size
              have hrlt3 := HM2.out.rlt
              go_wp2_with fail
              refine ⟨⟨k, .slice ao2 n2 c2, ks ++ [l[2 * k][0]], by go_num, by omega, ?_, ?_, ?_⟩, by simp [RowKit.intOf]; omega⟩
              · rw [HF'.out]; exact HM2.out.store _ _ _ _ hBs3
              · rw [HF'.out]; exact HALL.out.put _ _ (fun c => by simp)
              · exact ((HB3.out.setCell (p := ⟨w.heap.size + 1, l[2 * k][0].toNat, none⟩) (by simp) _).alloc (by simpa using hBs3) _).drew
end Go.Proofs.Yteajdljmbjdbkaa
