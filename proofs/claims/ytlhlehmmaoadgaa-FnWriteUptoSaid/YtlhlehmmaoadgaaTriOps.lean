/- Plain: what becomes of a trie in memory when a node is split, a table is made, a key is added below. -/
import Derived.Test.YtlhlehmmaoadgaaTri
import Derived.Laws.NewBlocks
namespace Go.Proofs.Ytlhlehmmaoadgaa
open Go.RowKit Go.Lib
set_option linter.unusedVariables false

theorem cs_other (w : World) (b o b' o' : Nat) (u : Value) (h : b ≠ b' ∨ o ≠ o') : (w.setCell ⟨b', o', none⟩ u).cell? ⟨b, o, none⟩ = w.cell? ⟨b, o, none⟩ :=
  World.cell?_setCell_other _ _ _ _ (fun e => by injection e with e1 e2; rcases h with h | h; · exact h e1.symm
                                                 · exact h e2.symm)
theorem fz_set (w : World) (a : Addr) (u : Value) (x o : Nat) : (w.setCell a u).frozen? ⟨x, o, none⟩ = w.frozen? ⟨x, o, none⟩ := by simp

section
variable {w : World} {b : Nat} {v : ByteArray} {p : Nat} {pr : ByteArray} {nx tb : Value}
theorem NodeAt.set0 (h : NodeAt w b v p pr nx tb) (x : ByteArray) : NodeAt (w.setCell ⟨b, 0, none⟩ (.string x)) b x p pr nx tb :=
  ⟨by rw [World.cell?_setCell_same _ _ _ h.c0], by rw [cs_other _ _ _ _ _ _ (.inr (by decide))]; exact h.c1, by rw [cs_other _ _ _ _ _ _ (.inr (by decide))]; exact h.c2, by rw [cs_other _ _ _ _ _ _ (.inr (by decide))]; exact h.c3, by rw [cs_other _ _ _ _ _ _ (.inr (by decide))]; exact h.c4, fun o => by rw [fz_set]; exact h.fz o⟩
theorem NodeAt.set1 (h : NodeAt w b v p pr nx tb) (x : Nat) : NodeAt (w.setCell ⟨b, 1, none⟩ (.int .i64 x)) b v x pr nx tb :=
  ⟨by rw [cs_other _ _ _ _ _ _ (.inr (by decide))]; exact h.c0, by rw [World.cell?_setCell_same _ _ _ h.c1], by rw [cs_other _ _ _ _ _ _ (.inr (by decide))]; exact h.c2, by rw [cs_other _ _ _ _ _ _ (.inr (by decide))]; exact h.c3, by rw [cs_other _ _ _ _ _ _ (.inr (by decide))]; exact h.c4, fun o => by rw [fz_set]; exact h.fz o⟩
theorem NodeAt.set2 (h : NodeAt w b v p pr nx tb) (x : ByteArray) : NodeAt (w.setCell ⟨b, 2, none⟩ (.string x)) b v p x nx tb :=
  ⟨by rw [cs_other _ _ _ _ _ _ (.inr (by decide))]; exact h.c0, by rw [cs_other _ _ _ _ _ _ (.inr (by decide))]; exact h.c1, by rw [World.cell?_setCell_same _ _ _ h.c2], by rw [cs_other _ _ _ _ _ _ (.inr (by decide))]; exact h.c3, by rw [cs_other _ _ _ _ _ _ (.inr (by decide))]; exact h.c4, fun o => by rw [fz_set]; exact h.fz o⟩
theorem NodeAt.set3 (h : NodeAt w b v p pr nx tb) (x : Value) : NodeAt (w.setCell ⟨b, 3, none⟩ x) b v p pr x tb :=
  ⟨by rw [cs_other _ _ _ _ _ _ (.inr (by decide))]; exact h.c0, by rw [cs_other _ _ _ _ _ _ (.inr (by decide))]; exact h.c1, by rw [cs_other _ _ _ _ _ _ (.inr (by decide))]; exact h.c2, by rw [World.cell?_setCell_same _ _ _ h.c3], by rw [cs_other _ _ _ _ _ _ (.inr (by decide))]; exact h.c4, fun o => by rw [fz_set]; exact h.fz o⟩
theorem NodeAt.set4 (h : NodeAt w b v p pr nx tb) (x : Value) : NodeAt (w.setCell ⟨b, 4, none⟩ x) b v p pr nx x :=
  ⟨by rw [cs_other _ _ _ _ _ _ (.inr (by decide))]; exact h.c0, by rw [cs_other _ _ _ _ _ _ (.inr (by decide))]; exact h.c1, by rw [cs_other _ _ _ _ _ _ (.inr (by decide))]; exact h.c2, by rw [cs_other _ _ _ _ _ _ (.inr (by decide))]; exact h.c3, by rw [World.cell?_setCell_same _ _ _ h.c4], fun o => by rw [fz_set]; exact h.fz o⟩
end
theorem SameBlk.refl (w : World) (x : Nat) : SameBlk w w x := fun _ => ⟨rfl, rfl⟩
theorem SameBlk.set {a w : World} {x : Nat} (h : SameBlk a w x) {b o : Nat} (hb : x ≠ b) (u : Value) : SameBlk a (w.setCell ⟨b, o, none⟩ u) x := fun o' =>
  ⟨(cs_other _ _ _ _ _ _ (.inl hb)).trans (h o').1, (fz_set _ _ _ _ _).trans (h o').2⟩
theorem SameBlk.alloc {a w : World} {x : Nat} (h : SameBlk a w x) (hx : x < w.heap.size) (o : Obj) : SameBlk a (w.alloc o) x := fun o' =>
  ⟨(cell_alloc_lt w o ⟨x, o', none⟩ hx).trans (h o').1, (frozen_alloc_lt w o ⟨x, o', none⟩ hx).trans (h o').2⟩
theorem SameBlk.drewN {a w : World} {x : Nat} (h : SameBlk a w x) (n : Nat) : SameBlk a (w.drewN n) x := h
theorem SameBlk.drew {a w : World} {x : Nat} (h : SameBlk a w x) : SameBlk a w.drew x := h
theorem Chg.put {a w : World} {rb : Nat} {fp : Nat → Prop} (h : Chg a w rb fp) (b o : Nat) (u : Value) (hb : fp b ∨ a.heap.size ≤ b) (hr : b = rb → o < 5) : Chg a (w.setCell ⟨b, o, none⟩ u) rb fp := h.setCell hb hr u
theorem Tri.drewN {w : World} {rb ts : Nat} {idx : UInt8 → Nat} {b : Nat} {m : Keys} {fp : Nat → Prop} (h : Tri w rb ts idx b m fp) (n : Nat) : Tri (w.drewN n) rb ts idx b m fp := h.same fun x _ o => ⟨rfl, rfl⟩
theorem NodeAt.drewN {w : World} {b : Nat} {v : ByteArray} {p : Nat} {pr : ByteArray} {nx tb : Value} (h : NodeAt w b v p pr nx tb) (n : Nat) : NodeAt (w.drewN n) b v p pr nx tb := h.same fun o => ⟨rfl, rfl⟩
theorem RepAt.drewN {w : World} {rb ts : Nat} {idx : UInt8 → Nat} (h : RepAt w rb ts idx) (n : Nat) : RepAt (w.drewN n) rb ts idx := ⟨h.lt, h.size, h.map, h.le, h.inj, h.room⟩
theorem Chg.of_drewN {w w' : World} {rb : Nat} {fp : Nat → Prop} {n : Nat} (h : Chg (w.drewN n) w' rb fp) : Chg w w' rb fp := ⟨h.os, h.tape, h.output, h.size, h.block, h.root, h.frozen, h.plain⟩
theorem AddPost.of_drewN {w w' : World} {rb ts : Nat} {idx : UInt8 → Nat} {b : Nat} {m : Keys} {fp : Nat → Prop} {key : List UInt8} {q : Nat} {val : ByteArray} {n : Nat} (A : AddPost (w.drewN n) rb ts idx b m fp key q val w') : AddPost w rb ts idx b m fp key q val w' := by
  obtain ⟨fp2, T, F, C, K⟩ := A
  exact ⟨fp2, T, F, C.of_drewN, K⟩
/-- a new node -/
theorem NodeAt.new (w : World) (n : Nat) (hn : w.heap.size = n) (v : ByteArray) (p : Nat) (pr : ByteArray) (nx tb : Value) (T : TypeId) : NodeAt (w.alloc (.cells #[.string v, .int .i64 p, .string pr, nx, tb] T)) n v p pr nx tb := by
  subst hn
  exact ⟨by rw [World.cell?_alloc_at _ _ _ _ rfl]; rfl, by rw [World.cell?_alloc_at _ _ _ _ rfl]; rfl, by rw [World.cell?_alloc_at _ _ _ _ rfl]; rfl, by rw [World.cell?_alloc_at _ _ _ _ rfl]; rfl, by rw [World.cell?_alloc_at _ _ _ _ rfl]; rfl, fun o => World.frozen?_alloc_at _ _ _ _ rfl⟩

theorem app_ne {pr : ByteArray} (hp : 0 < pr.size) (k : List UInt8) : pr.data.toList ++ k ≠ [] := fun e => by
  have := congrArg List.length e
  have e2 : pr.data.toList.length = pr.size := by simp
  rw [List.length_append, e2, List.length_nil] at this
  omega
/-- the top of a trie: another value there, all else as it was -/
theorem Tri.top {w : World} {rb ts : Nat} {idx : UInt8 → Nat} {b : Nat} {m : Keys} {fp : Nat → Prop} (h : Tri w rb ts idx b m fp) :
    ∃ v p pr nx tb, NodeAt w b v p pr nx tb ∧ m [] = here p v ∧ ∀ w' v' p', NodeAt w' b v' p' pr nx tb → (∀ x, fp x → x ≠ b → SameBlk w w' x) → ∀ m2 : Keys, m2 [] = here p' v' → (∀ k, k ≠ [] → m2 k = m k) → Tri w' rb ts idx b m2 fp := by
  cases h with
  | leaf h m0 m1 f => exact ⟨_, _, _, _, _, h, m0, fun w' v' p' h' hs m2 e0 e1 => .leaf h' e0 (fun k hk => (e1 k hk).trans (m1 k hk)) f⟩
  | pre h hp hl hu ht m0 m1 m2 f fs fd =>
    refine ⟨_, _, _, _, _, h, m0, fun w' v' p' h' hs m2' e0 e1 => .pre h' hp hl hu (ht.same fun x hx => hs x (fs x hx) (fun e => fd (e ▸ hx))) e0 (fun k => ?_) (fun k hk hn => (e1 k hk).trans (m2 k hk hn)) f fs fd⟩
    rw [e1 _ (app_ne hp k)]
    exact m1 k
  | tab h hc hz ht hn m0 m1 f ft fs fd fdd hbt htr =>
    refine ⟨_, _, _, _, _, h, m0, fun w' v' p' h' hs m2 e0 e1 => .tab h' (fun i hi => ((hs _ ft (Ne.symm hbt)) i).1.trans (hc i hi)) (fun o => ((hs _ ft (Ne.symm hbt)) o).2.trans (hz o)) (fun i c hi hk => (ht i c hi hk).same fun x hx => hs x (fs i x hi hx) (fun e => (fd i hi).1 (e ▸ hx))) hn e0 (fun x k => (e1 _ (by simp)).trans (m1 x k)) f ft fs fd fdd hbt htr⟩

section
variable {w w1 w2 : World} {rb ts : Nat} {idx : UInt8 → Nat} {b : Nat} {m : Keys} {fp fp1 : Nat → Prop} {key : List UInt8} {q : Nat} {val : ByteArray}
/-- a step that turns the trie's build, not what it stands for, ahead of 'add' -/
theorem AddPost.after (c : Chg w w1 rb fp) (hf : ∀ x, fp1 x → fp x ∨ w.heap.size ≤ x) (k4 : TabKept w w1 b) (A : AddPost w1 rb ts idx b m fp1 key q val w2) : AddPost w rb ts idx b m fp key q val w2 := by
  obtain ⟨fp2, T, F, C, K⟩ := A
  refine ⟨fp2, T, fun x hx => ⟨?_, (F x hx).2⟩, c.trans C hf, fun g n c' hg => K g n c' (k4 g n c' hg)⟩
  rcases (F x hx).1 with h | h
  · exact hf x h
  · exact .inr (Nat.le_trans c.size h)
/-- the key ends here -/
theorem addPost_here (h : Tri w rb ts idx b m fp) (hlt : ∀ x, fp x → x < w.heap.size) {v' : ByteArray} {p' : Nat} (c : Chg w w1 rb (fun x => x = b)) (k4 : TabKept w w1 b)
    (T : Tri w1 rb ts idx b (addK m [] q val) fp) : AddPost w rb ts idx b m fp [] q val w1 :=
  ⟨fp, T, fun x hx => ⟨.inl hx, Nat.lt_of_lt_of_le (hlt x hx) c.size⟩, c.weak (fun x hx => by subst hx; exact h.own), k4⟩
end

theorem addK_nil_old {m : Keys} {p : Nat} {v : ByteArray} (hm : m [] = here p v) (hp : p ≠ 0) (q : Nat) (val : ByteArray) : ∀ k, m k = addK m [] q val k := fun k => by
  unfold addK
  by_cases h : k = []
  · rw [if_pos h, h, hm]; unfold here; rw [if_neg hp]
  · rw [if_neg h]
theorem addK_nil_new {m : Keys} {v : ByteArray} (hm : m [] = here 0 v) {q : Nat} (hq : q ≠ 0) (val : ByteArray) : addK m [] q val [] = here q val := by
  unfold addK
  rw [if_pos rfl, hm]
  unfold here
  rw [if_pos rfl, if_neg hq]
theorem addK_ne {m : Keys} {key k : List UInt8} (h : k ≠ key) (q : Nat) (val : ByteArray) : addK m key q val k = m k := by
  unfold addK; rw [if_neg h]

/-- add below a prefix -/
theorem addPost_pre {w w1 : World} {rb ts : Nat} {idx : UInt8 → Nat} {b c : Nat} {v pr : ByteArray} {p : Nat} {m m' : Keys} {fp fp' : Nat → Prop} {k2 : List UInt8} {q : Nat} {val : ByteArray}
    (h : NodeAt w b v p pr (.pointer (some ⟨c, 0, none⟩)) (.slice none 0 0)) (hp : 0 < pr.size) (hl : pr.size < 4611686018427387904) (hu : ∀ x ∈ pr.data.toList, idx x < ts)
    (m0 : m [] = here p v) (m1 : ∀ k, m (pr.data.toList ++ k) = m' k) (m2 : ∀ k, k ≠ [] → ¬ pr.data.toList <+: k → m k = none) (f : fp b) (fs : ∀ x, fp' x → fp x) (fd : ¬ fp' b) (hb : b < w.heap.size)
    (A : AddPost w rb ts idx c m' fp' k2 q val w1) : AddPost w rb ts idx b m fp (pr.data.toList ++ k2) q val w1 := by
  obtain ⟨fp2, T, F, C, K⟩ := A
  have hpr : pr.data.toList ≠ [] := fun e => by have := congrArg List.length e; simp at this; simp [this] at hp
  refine ⟨fun x => x = b ∨ fp2 x, .pre (h.same (C.same hb fd)) hp hl hu T ?_ (fun k => ?_) (fun k hk hn => ?_) (.inl rfl) (fun x hx => .inr hx) (fun hx => ?_), fun x hx => ?_, C.weak fs, TabKept.none h.c4⟩
  · rw [addK_ne (fun e => hpr (List.append_eq_nil_iff.1 e.symm).1)]; exact m0
  · unfold addK
    rw [m1, m1]
    simp
  · rw [addK_ne (fun e => hn ⟨k2, e.symm⟩)]; exact m2 k hk hn
  · rcases (F b hx).1 with h' | h'
    · exact fd h'
    · omega
  · rcases hx with rfl | hx
    · exact ⟨.inl f, Nat.lt_of_lt_of_le hb C.size⟩
    · exact ⟨(F x hx).1.imp (fs x) id, (F x hx).2⟩

/-- add below a table -/
theorem addPost_tab {w w1 : World} {rb ts : Nat} {idx : UInt8 → Nat} {b tb c : Nat} {v : ByteArray} {p : Nat} {m : Keys} {kid : Nat → Option Nat} {ms : Nat → Keys} {fp : Nat → Prop} {fps : Nat → Nat → Prop} {y : UInt8} {k2 : List UInt8} {q : Nat} {val : ByteArray}
    (h : NodeAt w b v p ⟨#[]⟩ (.pointer none) (.slice (some ⟨tb, 0, none⟩) ts ts)) (hc : ∀ i, i < ts → w.cell? ⟨tb, i, none⟩ = some (ptrOf (kid i))) (hz : ∀ o, w.frozen? ⟨tb, o, none⟩ = false)
    (ht : ∀ i c, i < ts → kid i = some c → Tri w rb ts idx c (ms i) (fps i)) (hn : ∀ i, i < ts → kid i = none → (∀ k, ms i k = none) ∧ ∀ x, ¬ fps i x)
    (m0 : m [] = here p v) (m1 : ∀ x k, m (x :: k) = if idx x < ts then ms (idx x) k else none)
    (f : fp b) (ft : fp tb) (fs : ∀ i x, i < ts → fps i x → fp x) (fd : ∀ i, i < ts → ¬ fps i b ∧ ¬ fps i tb) (fdd : ∀ i j x, i < ts → j < ts → i ≠ j → fps i x → ¬ fps j x) (hbt : b ≠ tb) (htr : tb ≠ rb)
    (hlt : ∀ x, fp x → x < w.heap.size) (hinj : ∀ x z, idx x < ts → idx x = idx z → x = z) (hy : idx y < ts) (hk : kid (idx y) = some c)
    (A : AddPost w rb ts idx c (ms (idx y)) (fps (idx y)) k2 q val w1) : AddPost w rb ts idx b m fp (y :: k2) q val w1 := by
  obtain ⟨fp2, T, F, C, K⟩ := A
  have hbl := hlt b f
  have htl := hlt tb ft
  have hbs := C.same hbl (fd _ hy).1
  have hts := C.same htl (fd _ hy).2
  have hnew : ∀ x, fp2 x → x < w.heap.size → fps (idx y) x := fun x hx hl => by
    rcases (F x hx).1 with h' | h'
    · exact h'
    · omega
  refine ⟨fun x => (x = b ∨ x = tb) ∨ (∃ i, i < ts ∧ i ≠ idx y ∧ fps i x) ∨ fp2 x,
    .tab (kid := kid) (ms := fun i => if i = idx y then addK (ms i) k2 q val else ms i) (fps := fun i => if i = idx y then fp2 else fps i)
      (h.same hbs) (fun i hi => (hts i).1.trans (hc i hi)) (fun o => (hts o).2.trans (hz o)) (fun i c' hi hki => ?_) (fun i hi hki => ?_) ?_ (fun x k => ?_) (.inl (.inl rfl)) (.inl (.inr rfl)) (fun i x hi hx => ?_) (fun i hi => ?_) (fun i j x hi hj hij hx => ?_) hbt htr, fun x hx => ?_, C.weak (fun x hx => fs _ x hy hx), fun g n c' hg => by rw [(hbs 4).1]; exact hg⟩
  · by_cases e : i = idx y
    · subst e
      rw [hk] at hki
      obtain rfl := Option.some.inj hki
      simp only [if_pos]
      exact T
    · simp only [if_neg e]
      exact (ht i c' hi hki).same fun x hx => C.same (hlt x (fs i x hi hx)) (fdd i (idx y) x hi hy e hx)
  · have e : i ≠ idx y := fun e => by rw [e, hk] at hki; cases hki
    simp only [if_neg e]
    exact hn i hi hki
  · rw [addK_ne (by simp)]; exact m0
  · by_cases e : x = y
    · subst e
      simp only [if_pos]
      rw [if_pos hy]
      unfold addK
      rw [m1, m1, if_pos hy, if_pos hy]
      simp
    · rw [addK_ne (fun h' => e (by injection h')), m1]
      by_cases hx : idx x < ts
      · have : idx x ≠ idx y := fun h' => e (hinj x y hx h')
        simp only [if_pos hx, if_neg this]
      · simp only [if_neg hx]
  · by_cases e : i = idx y
    · simp only [if_pos e] at hx; exact .inr (.inr hx)
    · simp only [if_neg e] at hx; exact .inr (.inl ⟨i, hi, e, hx⟩)
  · by_cases e : i = idx y
    · simp only [if_pos e]
      exact ⟨fun hx => (fd _ hy).1 (hnew b hx hbl), fun hx => (fd _ hy).2 (hnew tb hx htl)⟩
    · simp only [if_neg e]; exact fd i hi
  · by_cases e : i = idx y
    · have e' : j ≠ idx y := fun h' => hij (e.trans h'.symm)
      simp only [if_pos e] at hx
      simp only [if_neg e']
      intro hx'
      exact fdd j (idx y) x hj hy e' hx' (hnew x hx (hlt x (fs j x hj hx')))
    · simp only [if_neg e] at hx
      by_cases e' : j = idx y
      · simp only [if_pos e']
        intro hx'
        exact fdd i (idx y) x hi hy e hx (hnew x hx' (hlt x (fs i x hi hx)))
      · simp only [if_neg e']; exact fdd i j x hi hj hij hx
  · rcases hx with (rfl | rfl) | ⟨i, hi, _, hx⟩ | hx
    · exact ⟨.inl f, Nat.lt_of_lt_of_le hbl C.size⟩
    · exact ⟨.inl ft, Nat.lt_of_lt_of_le htl C.size⟩
    · exact ⟨.inl (fs i x hi hx), Nat.lt_of_lt_of_le (hlt x (fs i x hi hx)) C.size⟩
    · exact ⟨(F x hx).1.imp (fs _ x hy) id, (F x hx).2⟩
end Go.Proofs.Ytlhlehmmaoadgaa
