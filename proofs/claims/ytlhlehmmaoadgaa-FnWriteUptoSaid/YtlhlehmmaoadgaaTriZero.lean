/- The walk of trieNode.add where the key parts from a node's prefix at its first byte: a table is made. -/
import Derived.Test.YtlhlehmmaoadgaaTriPre
import Derived.Deep.OwnRows
import Derived.Deep.LoopGhost
import Derived.Laws.MakeOwn
namespace Go.Proofs.Ytlhlehmmaoadgaa
open Go.RowKit Go.Lib
set_option linter.unusedVariables false

theorem infoPtr : (Try.prog.info? 68).map (fun i => (i.zero, i.size, i.bytes)) = some (some (.pointer none), 1, 8) := by kernel_rfl
theorem made_ptr (n j : Nat) (hj : j < n) : (madeCells #[.pointer none] n)[j]? = some (.pointer none) := by
  simp [madeCells, hj, Nat.mod_one]

/-- what stands in memory when the table has been made and is still empty -/
structure ZF (w w3 : World) (rb ts : Nat) (idx : UInt8 → Nat) (b c : Nat) (v : ByteArray) (p : Nat) (pr : ByteArray) (m' : Keys) (fp fp' : Nat → Prop) (pn kn tb : Nat) (fpP : Nat → Prop) : Prop where
  n3 : NodeAt w3 b v p pr (.pointer (some ⟨c, 0, none⟩)) (.slice (some ⟨tb, 0, none⟩) ts ts)
  k3 : NodeAt w3 kn ⟨#[]⟩ 0 ⟨#[]⟩ (.pointer none) (.slice none 0 0)
  tp : Tri w3 rb ts idx pn (preK (pr.extract 1 pr.size).data.toList m') fpP
  tc : ∀ i, i < ts → w3.cell? ⟨tb, i, none⟩ = some (.pointer none)
  tz : ∀ o, w3.frozen? ⟨tb, o, none⟩ = false
  chg : Chg w w3 rb fp
  knl : w.heap.size ≤ kn
  kns : kn < w3.heap.size
  tbl : w.heap.size ≤ tb
  tbs : tb < w3.heap.size
  kt : kn ≠ tb
  fpp : ∀ x, fpP x → (fp' x ∨ w.heap.size ≤ x) ∧ x < w3.heap.size ∧ x ≠ kn ∧ x ≠ tb
theorem ZF.drewN {w w3 : World} {rb ts : Nat} {idx : UInt8 → Nat} {b c : Nat} {v : ByteArray} {p : Nat} {pr : ByteArray} {m' : Keys} {fp fp' : Nat → Prop} {pn kn tb : Nat} {fpP : Nat → Prop} (h : ZF w w3 rb ts idx b c v p pr m' fp fp' pn kn tb fpP) (n : Nat) : ZF w (w3.drewN n) rb ts idx b c v p pr m' fp fp' pn kn tb fpP :=
  ⟨h.n3.drewN n, h.k3.drewN n, h.tp.drewN n, h.tc, h.tz, h.chg.drewN n, h.knl, h.kns, h.tbl, h.tbs, h.kt, h.fpp⟩
theorem zf_one {w w1 : World} {rb ts : Nat} {idx : UInt8 → Nat} {b c : Nat} {v : ByteArray} {p : Nat} {pr : ByteArray} {m' : Keys} {fp fp' : Nat → Prop} (N1 : NodeAt w1 b v p pr (.pointer (some ⟨c, 0, none⟩)) (.slice none 0 0)) (h1 : pr.size = 1)
    (T1 : Tri w1 rb ts idx c m' fp') (C1 : Chg w w1 rb fp) (f : fp b) (hb : b < w1.heap.size) (hr : rb < w1.heap.size) (fs : ∀ x, fp' x → x < w1.heap.size) (fd : ¬ fp' b) (kn tb : Nat) (hkn : kn = w1.heap.size) (htb : tb = w1.heap.size + 1) :
    ZF w (((w1.setCell ⟨b, 4, none⟩ (.slice (some ⟨tb, 0, none⟩) ts ts)).alloc (.cells #[.string ⟨#[]⟩, .int .i64 0, .string ⟨#[]⟩, .pointer none, .slice none 0 0] 71)).alloc (.cells (madeCells #[.pointer none] ts) 68)) rb ts idx b c v p pr m' fp fp' c kn tb fp' := by
  have s1 : (w1.setCell ⟨b, 4, none⟩ (.slice (some ⟨tb, 0, none⟩) ts ts)).heap.size = w1.heap.size := by simp
  generalize hwa : w1.setCell ⟨b, 4, none⟩ (.slice (some ⟨tb, 0, none⟩) ts ts) = wa at s1 ⊢
  have s2 : (wa.alloc (.cells #[.string ⟨#[]⟩, .int .i64 0, .string ⟨#[]⟩, .pointer none, .slice none 0 0] 71)).heap.size = w1.heap.size + 1 := by simp [s1]
  have hNa : NodeAt wa b v p pr (.pointer (some ⟨c, 0, none⟩)) (.slice (some ⟨tb, 0, none⟩) ts ts) := by rw [← hwa]; exact N1.set4 _
  have hSa : ∀ x, x ≠ b → SameBlk w1 wa x := fun x hx => by rw [← hwa]; exact (SameBlk.refl _ _).set hx _
  have hCa : Chg w wa rb fp := by rw [← hwa]; exact C1.put b 4 _ (.inl f) (fun _ => by decide)
  have hK := NodeAt.new wa kn (by omega) ⟨#[]⟩ 0 ⟨#[]⟩ (.pointer none) (.slice none 0 0) 71
  have hCk := hCa.alloc (by omega) (.cells #[.string ⟨#[]⟩, .int .i64 0, .string ⟨#[]⟩, .pointer none, .slice none 0 0] 71)
  have hSk : ∀ x, x < w1.heap.size → SameBlk wa (wa.alloc (.cells #[.string ⟨#[]⟩, .int .i64 0, .string ⟨#[]⟩, .pointer none, .slice none 0 0] 71)) x := fun x hx => (SameBlk.refl _ _).alloc (by omega) _
  have e0 : ((0 : Nat) : Int) = 0 := rfl
  rw [e0] at hK
  generalize wa.alloc (.cells #[.string ⟨#[]⟩, .int .i64 0, .string ⟨#[]⟩, .pointer none, .slice none 0 0] 71) = wk at s2 hK hCk hSk ⊢
  have hcs := C1.size
  refine ⟨(hNa.same (hSk b hb)).same ((SameBlk.refl _ _).alloc (by omega) _), hK.same ((SameBlk.refl _ _).alloc (by omega) _), ?_, fun i hi => ?_, fun o => World.frozen?_alloc_at _ _ _ _ (by show tb = wk.heap.size; omega), hCk.alloc (by omega) _, by omega, by simp; omega, by omega, by simp; omega, by omega, fun x hx => ⟨.inl hx, by have := fs x hx; simp; omega, by have := fs x hx; omega, by have := fs x hx; omega⟩⟩
  · have e : (pr.extract 1 pr.size).data.toList = [] := by rw [Lib.extract_to_end]; exact List.drop_eq_nil_of_le (by simp; omega)
    rw [e]
    refine (T1.same fun x hx => ?_).congr (fun k => by simp [preK])
    have hxb : x ≠ b := fun h => fd (h ▸ hx)
    exact fun o => ⟨((((SameBlk.refl wk x).alloc (by have := fs x hx; omega) _) o).1.trans ((hSk x (fs x hx)) o).1).trans ((hSa x hxb) o).1, ((((SameBlk.refl wk x).alloc (by have := fs x hx; omega) _) o).2.trans ((hSk x (fs x hx)) o).2).trans ((hSa x hxb) o).2⟩
  · rw [World.cell?_alloc_at _ _ _ _ (by show tb = wk.heap.size; omega)]
    exact made_ptr ts i hi
theorem zf_more {w w1 : World} {rb ts : Nat} {idx : UInt8 → Nat} {b c : Nat} {v : ByteArray} {p : Nat} {pr : ByteArray} {m' : Keys} {fp fp' : Nat → Prop} (N1 : NodeAt w1 b v p pr (.pointer (some ⟨c, 0, none⟩)) (.slice none 0 0)) (h1 : 1 < pr.size) (hl : pr.size < 4611686018427387904) (hu : ∀ x ∈ pr.data.toList, idx x < ts)
    (T1 : Tri w1 rb ts idx c m' fp') (C1 : Chg w w1 rb fp) (f : fp b) (hb : b < w1.heap.size) (hr : rb < w1.heap.size) (fs : ∀ x, fp' x → x < w1.heap.size) (fd : ¬ fp' b) (pn kn tb : Nat) (hpn : pn = w1.heap.size) (hkn : kn = w1.heap.size + 1) (htb : tb = w1.heap.size + 2) :
    ZF w ((((w1.setCell ⟨b, 4, none⟩ (.slice (some ⟨tb, 0, none⟩) ts ts)).alloc (.cells #[.string ⟨#[]⟩, .int .i64 0, .string (pr.extract 1 pr.size), .pointer (some ⟨c, 0, none⟩), .slice none 0 0] 71)).alloc (.cells #[.string ⟨#[]⟩, .int .i64 0, .string ⟨#[]⟩, .pointer none, .slice none 0 0] 71)).alloc (.cells (madeCells #[.pointer none] ts) 68)) rb ts idx b c v p pr m' fp fp' pn kn tb (fun x => x = pn ∨ fp' x) := by
  have s1 : (w1.setCell ⟨b, 4, none⟩ (.slice (some ⟨tb, 0, none⟩) ts ts)).heap.size = w1.heap.size := by simp
  generalize hwa : w1.setCell ⟨b, 4, none⟩ (.slice (some ⟨tb, 0, none⟩) ts ts) = wa at s1 ⊢
  have hNa : NodeAt wa b v p pr (.pointer (some ⟨c, 0, none⟩)) (.slice (some ⟨tb, 0, none⟩) ts ts) := by rw [← hwa]; exact N1.set4 _
  have hSa : ∀ x, x ≠ b → SameBlk w1 wa x := fun x hx => by rw [← hwa]; exact (SameBlk.refl _ _).set hx _
  have hCa : Chg w wa rb fp := by rw [← hwa]; exact C1.put b 4 _ (.inl f) (fun _ => by decide)
  have hP := NodeAt.new wa pn (by omega) ⟨#[]⟩ 0 (pr.extract 1 pr.size) (.pointer (some ⟨c, 0, none⟩)) (.slice none 0 0) 71
  have e0 : ((0 : Nat) : Int) = 0 := rfl
  rw [e0] at hP
  have hCp := hCa.alloc (by omega) (.cells #[.string ⟨#[]⟩, .int .i64 0, .string (pr.extract 1 pr.size), .pointer (some ⟨c, 0, none⟩), .slice none 0 0] 71)
  have s2 : (wa.alloc (.cells #[.string ⟨#[]⟩, .int .i64 0, .string (pr.extract 1 pr.size), .pointer (some ⟨c, 0, none⟩), .slice none 0 0] 71)).heap.size = w1.heap.size + 1 := by simp [s1]
  have hSp : ∀ x, x < w1.heap.size → SameBlk wa (wa.alloc (.cells #[.string ⟨#[]⟩, .int .i64 0, .string (pr.extract 1 pr.size), .pointer (some ⟨c, 0, none⟩), .slice none 0 0] 71)) x := fun x hx => (SameBlk.refl _ _).alloc (by omega) _
  generalize wa.alloc (.cells #[.string ⟨#[]⟩, .int .i64 0, .string (pr.extract 1 pr.size), .pointer (some ⟨c, 0, none⟩), .slice none 0 0] 71) = wp at s2 hP hCp hSp ⊢
  have hK := NodeAt.new wp kn (by omega) ⟨#[]⟩ 0 ⟨#[]⟩ (.pointer none) (.slice none 0 0) 71
  rw [e0] at hK
  have hCk := hCp.alloc (by omega) (.cells #[.string ⟨#[]⟩, .int .i64 0, .string ⟨#[]⟩, .pointer none, .slice none 0 0] 71)
  have s3 : (wp.alloc (.cells #[.string ⟨#[]⟩, .int .i64 0, .string ⟨#[]⟩, .pointer none, .slice none 0 0] 71)).heap.size = w1.heap.size + 2 := by simp [s2]
  have hSk : ∀ x, x < w1.heap.size + 1 → SameBlk wp (wp.alloc (.cells #[.string ⟨#[]⟩, .int .i64 0, .string ⟨#[]⟩, .pointer none, .slice none 0 0] 71)) x := fun x hx => (SameBlk.refl _ _).alloc (by omega) _
  generalize wp.alloc (.cells #[.string ⟨#[]⟩, .int .i64 0, .string ⟨#[]⟩, .pointer none, .slice none 0 0] 71) = wk at s3 hK hCk hSk ⊢
  have hcs := C1.size
  have hpl : (pr.extract 1 pr.size).size = pr.size - 1 := by simp
  have hur : ∀ x ∈ (pr.extract 1 pr.size).data.toList, idx x < ts := fun x hx => hu x (by rw [split_at pr 1 (by omega)]; exact List.mem_append_right _ hx)
  have hfin : ∀ x, x < w1.heap.size + 2 → SameBlk wk (wk.alloc (.cells (madeCells #[.pointer none] ts) 68)) x := fun x hx => (SameBlk.refl _ _).alloc (by omega) _
  refine ⟨((hNa.same (hSp b hb)).same (hSk b (by omega))).same (hfin b (by omega)), hK.same (hfin kn (by omega)), ?_, fun i hi => ?_, fun o => World.frozen?_alloc_at _ _ _ _ (by show tb = wk.heap.size; omega), hCk.alloc (by omega) _, by omega, by simp; omega, by omega, by simp; omega, by omega, fun x hx => ?_⟩
  · refine .pre ((hP.same (hSk pn (by omega))).same (hfin pn (by omega))) (by omega) (by omega) hur (T1.same fun x hx => ?_) (by rw [preK_none _ _ _ (fun e => by have := e.length_le; simp at this; omega)]; simp [here]) (fun k => preK_app _ _ _) (fun k _ hn => preK_none _ _ _ hn) (.inl rfl) (fun x hx => .inr hx) (fun hx => by have := fs _ hx; omega)
    have hxb : x ≠ b := fun h => fd (h ▸ hx)
    have hxl := fs x hx
    exact fun o => ⟨(((hfin x (by omega)) o).1.trans (((hSk x (by omega)) o).1.trans ((hSp x hxl) o).1)).trans ((hSa x hxb) o).1, (((hfin x (by omega)) o).2.trans (((hSk x (by omega)) o).2.trans ((hSp x hxl) o).2)).trans ((hSa x hxb) o).2⟩
  · rw [World.cell?_alloc_at _ _ _ _ (by show tb = wk.heap.size; omega)]
    exact made_ptr ts i hi
  · rcases hx with rfl | hx
    · exact ⟨.inr (by omega), by simp; omega, by omega, by omega⟩
    · have := fs x hx
      exact ⟨.inl hx, by simp; omega, by omega, by omega⟩

theorem head_of_prefix {pr : ByteArray} (hp : 0 < pr.size) {x : UInt8} {k : List UInt8} (h : pr.data.toList <+: x :: k) : x = pr[0] ∧ (pr.extract 1 pr.size).data.toList <+: k := by
  rw [cons_of pr hp] at h
  obtain ⟨h1, h2⟩ := List.cons_prefix_cons.1 h
  exact ⟨h1.symm, h2⟩
theorem zero_pack {w w4 w6 : World} {rb ts : Nat} {idx : UInt8 → Nat} {b c : Nat} {v : ByteArray} {p : Nat} {pr key : ByteArray} {m m' : Keys} {fp fp' : Nat → Prop} {pn kn tb : Nat} {fpP : Nat → Prop} {q : Nat} {val : ByteArray} (hp : 0 < pr.size) (hk : 0 < key.size) (h40 : w.cell? ⟨b, 4, none⟩ = some (.slice none 0 0))
    (Z : ZF w w4 rb ts idx b c v p pr m' fp fp' pn kn tb fpP) (h6 : w6 = (w4.setCell ⟨tb, idx pr[0], none⟩ (.pointer (some ⟨pn, 0, none⟩))).drewN 1)
    (hx : idx pr[0] < ts) (hy : idx key[0] < ts) (hne : pr[0] ≠ key[0]) (hR : RepAt w rb ts idx) (m0 : m [] = here p v) (m1 : ∀ k, m (pr.data.toList ++ k) = m' k) (m2 : ∀ k, k ≠ [] → ¬ pr.data.toList <+: k → m k = none)
    (f : fp b) (fs : ∀ x, fp' x → fp x) (fd : ¬ fp' b) (hlt : ∀ x, fp x → x < w.heap.size) (w7 : World) (h7 : w7 = ((w6.setCell ⟨tb, idx key[0], none⟩ (.pointer (some ⟨kn, 0, none⟩))).setCell ⟨b, 2, none⟩ (.string ⟨#[]⟩)).setCell ⟨b, 3, none⟩ (.pointer none)) :
    Tri w7 rb ts idx kn (fun _ => none) (fun x => x = kn) ∧ kn < w7.heap.size ∧ Chg w w7 rb fp ∧ ∀ we, AddPost w7 rb ts idx kn (fun _ => none) (fun x => x = kn) (key.extract 1 key.size).data.toList q val we → AddPost w rb ts idx b m fp key.data.toList q val we := by
  have hb := hlt b f
  have hbt : b ≠ tb := by have := Z.tbl; omega
  have htr : tb ≠ rb := by have := Z.tbl; have := hR.lt; omega
  have hbk : b ≠ kn := by have := Z.knl; omega
  have hkt := Z.kt
  have hii : idx pr[0] ≠ idx key[0] := fun e => hne (hR.inj _ _ hx e)
  have hs7 : w7.heap.size = w4.heap.size := by rw [h7, h6]; simp [World.drewN]
  have S7 : ∀ x, x ≠ tb → x ≠ b → SameBlk w4 w7 x := fun x h1 h2 => by
    rw [h7, h6]
    exact (((((SameBlk.refl w4 x).set h1 _).drewN 1).set h1 _).set h2 _).set h2 _
  have N7 : NodeAt w7 b v p ⟨#[]⟩ (.pointer none) (.slice (some ⟨tb, 0, none⟩) ts ts) := by
    rw [h7, h6]
    exact (((Z.n3.same ((((SameBlk.refl w4 b).set hbt _).drewN 1).set hbt _)).set2 _).set3 _)
  have C7 : Chg w w7 rb fp := by
    rw [h7, h6]
    exact ((((Z.chg.put tb _ _ (.inr Z.tbl) (fun e => absurd e htr)).drewN 1).put tb _ _ (.inr Z.tbl) (fun e => absurd e htr)).put b 2 _ (.inl f) (fun _ => by decide)).put b 3 _ (.inl f) (fun _ => by decide)
  have K7 : NodeAt w7 kn ⟨#[]⟩ 0 ⟨#[]⟩ (.pointer none) (.slice none 0 0) := Z.k3.same (S7 kn hkt (Ne.symm hbk))
  have T7 : Tri w7 rb ts idx kn (fun _ => none) (fun x => x = kn) := .leaf K7 (by simp [here]) (fun _ _ => rfl) rfl
  have P7 : Tri w7 rb ts idx pn (preK (pr.extract 1 pr.size).data.toList m') fpP := Z.tp.same fun x hx' => S7 x (Z.fpp x hx').2.2.2 (fun e => by
    rcases (Z.fpp x hx').1 with h | h
    · exact fd (e ▸ h)
    · omega)
  have c7 : ∀ i, i < ts → w7.cell? ⟨tb, i, none⟩ = some (ptrOf (if i = idx key[0] then some kn else if i = idx pr[0] then some pn else none)) := fun i hi => by
    have q6 : w6.cell? ⟨tb, idx key[0], none⟩ = some (.pointer none) := by
      rw [h6]
      show (w4.setCell _ _).cell? _ = _
      rw [cs_other _ _ _ _ _ _ (.inr (Ne.symm hii))]; exact Z.tc _ hy
    rw [h7, cs_other _ _ _ _ _ _ (.inl (Ne.symm hbt)), cs_other _ _ _ _ _ _ (.inl (Ne.symm hbt))]
    by_cases e : i = idx key[0]
    · subst e
      rw [World.cell?_setCell_same _ _ _ q6, if_pos rfl]; rfl
    · rw [cs_other _ _ _ _ _ _ (.inr e), if_neg e, h6]
      show (w4.setCell _ _).cell? _ = _
      by_cases e2 : i = idx pr[0]
      · subst e2
        rw [World.cell?_setCell_same _ _ _ (Z.tc _ hi), if_pos rfl]; rfl
      · rw [cs_other _ _ _ _ _ _ (.inr e2), if_neg e2, Z.tc i hi]; rfl
  have z7 : ∀ o, w7.frozen? ⟨tb, o, none⟩ = false := fun o => by
    rw [h7, fz_set, fz_set, fz_set, h6]
    show (w4.setCell _ _).frozen? _ = _
    rw [fz_set]; exact Z.tz o
  refine ⟨T7, by rw [hs7]; exact Z.kns, C7, fun we A => AddPost.after C7 (fp1 := fun x => fp x ∨ (w.heap.size ≤ x ∧ x < w7.heap.size)) (fun x hx' => hx'.imp id (·.1)) (TabKept.none h40) ?_⟩
  rw [cons_of key hk]
  have hsl : w.heap.size ≤ w7.heap.size := C7.size
  refine addPost_tab (kid := fun i => if i = idx key[0] then some kn else if i = idx pr[0] then some pn else none) (ms := fun i => if i = idx key[0] then fun _ => none else if i = idx pr[0] then preK (pr.extract 1 pr.size).data.toList m' else fun _ => none)
    (fps := fun i x => if i = idx key[0] then x = kn else if i = idx pr[0] then fpP x else False) (c := kn) N7 c7 z7 (fun i c' hi hki => ?_) (fun i hi hki => ?_) m0 (fun x k => ?_) (.inl f) (.inr ⟨Z.tbl, by rw [hs7]; exact Z.tbs⟩) (fun i x hi hx' => ?_) (fun i hi => ?_) (fun i j x hi hj hij hx' => ?_) hbt htr (fun x hx' => ?_) hR.inj hy (by simp) ?_
  · by_cases e : i = idx key[0]
    · simp only [if_pos e] at hki ⊢
      obtain rfl := Option.some.inj hki
      exact T7
    · simp only [if_neg e] at hki ⊢
      by_cases e2 : i = idx pr[0]
      · simp only [if_pos e2] at hki ⊢
        obtain rfl := Option.some.inj hki
        exact P7
      · simp only [if_neg e2] at hki; cases hki
  · by_cases e : i = idx key[0]
    · simp [e] at hki
    · simp only [if_neg e] at hki
      by_cases e2 : i = idx pr[0]
      · simp [e2] at hki
      · exact ⟨fun k => by simp [e, e2], fun x => by simp [e, e2]⟩
  · by_cases hk0 : idx x < ts
    · rw [if_pos hk0]
      by_cases e : idx x = idx key[0]
      · have ex := hR.inj _ _ hk0 e
        simp only [if_pos e]
        exact m2 _ (by simp) (fun h => hne ((head_of_prefix hp h).1.symm.trans ex))
      · simp only [if_neg e]
        by_cases e2 : idx x = idx pr[0]
        · have ex := hR.inj _ _ hk0 e2
          simp only [if_pos e2]
          by_cases hpf : (pr.extract 1 pr.size).data.toList <+: k
          · obtain ⟨t, rfl⟩ := hpf
            rw [preK_app, ex, ← List.cons_append, ← cons_of pr hp, m1]
          · rw [preK_none _ _ _ hpf]
            exact m2 _ (by simp) (fun h => hpf (head_of_prefix hp h).2)
        · simp only [if_neg e2]
          exact m2 _ (by simp) (fun h => e2 (by rw [(head_of_prefix hp h).1]))
    · rw [if_neg hk0]
      exact m2 _ (by simp) (fun h => hk0 (by rw [(head_of_prefix hp h).1]; exact hx))
  · by_cases e : i = idx key[0]
    · simp only [if_pos e] at hx'; subst hx'; exact .inr ⟨Z.knl, by rw [hs7]; exact Z.kns⟩
    · simp only [if_neg e] at hx'
      by_cases e2 : i = idx pr[0]
      · simp only [if_pos e2] at hx'
        rcases (Z.fpp x hx').1 with h | h
        · exact .inl (fs x h)
        · exact .inr ⟨h, by rw [hs7]; exact (Z.fpp x hx').2.1⟩
      · simp only [if_neg e2] at hx'
  · by_cases e : i = idx key[0]
    · simp only [if_pos e]; exact ⟨hbk, fun h => hkt h.symm⟩
    · simp only [if_neg e]
      by_cases e2 : i = idx pr[0]
      · simp only [if_pos e2]
        refine ⟨fun h => ?_, fun h => (Z.fpp tb h).2.2.2 rfl⟩
        rcases (Z.fpp b h).1 with h' | h'
        · exact fd h'
        · omega
      · simp only [if_neg e2]; exact ⟨id, id⟩
  · by_cases e : i = idx key[0]
    · have e' : j ≠ idx key[0] := fun h' => hij (e.trans h'.symm)
      simp only [if_pos e] at hx'
      simp only [if_neg e']
      by_cases e2 : j = idx pr[0]
      · simp only [if_pos e2]; intro h; exact (Z.fpp x h).2.2.1 hx'
      · simp only [if_neg e2]; exact id
    · simp only [if_neg e] at hx'
      by_cases e2 : i = idx pr[0]
      · simp only [if_pos e2] at hx'
        by_cases e' : j = idx key[0]
        · simp only [if_pos e']; exact (Z.fpp x hx').2.2.1
        · have e3 : j ≠ idx pr[0] := fun h' => hij (e2.trans h'.symm)
          simp only [if_neg e', if_neg e3]; exact id
      · simp only [if_neg e2] at hx'
  · rcases hx' with h | h
    · have := hlt x h; omega
    · exact h.2
  · simp only [if_pos]; exact A

set_option maxHeartbeats 3200000 in
set_option maxRecDepth 100000 in
theorem add_pre_zero (rb ts : Nat) (idx : UInt8 → Nat) (b c p q : Nat) (v val pr key : ByteArray) (w : World) (m m' : Keys) (fp fp' : Nat → Prop)
    (h : NodeAt w b v p pr (.pointer (some ⟨c, 0, none⟩)) (.slice none 0 0)) (hp : 0 < pr.size) (hps : pr.size < 4611686018427387904) (hu : ∀ x ∈ pr.data.toList, idx x < ts) (ht : Tri w rb ts idx c m' fp')
    (m0 : m [] = here p v) (m1 : ∀ k, m (pr.data.toList ++ k) = m' k) (m2 : ∀ k, k ≠ [] → ¬ pr.data.toList <+: k → m k = none) (f : fp b) (fs : ∀ x, fp' x → fp x) (fd : ¬ fp' b)
    (hlt : ∀ x, fp x → x < w.heap.size) (hR : RepAt w rb ts idx) (hk : 0 < key.size) (hks : key.size < 4611686018427387904) (hne : pr[0] ≠ key[0]) (hy : idx key[0] < ts)
    (hrec : AddOk rb ts idx (key.extract 1 key.size) val q) :
    Calls Try.prog 21 #[.pointer (some ⟨b, 0, none⟩), .string key, .string val, .int .i64 q, .pointer (some ⟨rb, 0, none⟩)] w fun e w' => e = .returned (.tuple #[]) ∧ AddPost w rb ts idx b m fp key.data.toList q val w' := by
  have he : key.toList.isEmpty = false := by rw [empty_of2]; exact decide_eq_false (by omega)
  have hpe : pr.toList.isEmpty = false := by rw [empty_of2]; exact decide_eq_false (by omega)
  have h2 := h.c2
  have h3 := h.c3
  have hb := hlt b f
  have hx : idx pr[0] < ts := hu _ (get0_mem pr hp)
  have hle := hR.le
  have hsz := hR.size
  have hmp := hR.map pr[0]
  have hmk0 := hR.map key[0]
  have X := Lib.hid (And.intro hu (And.intro ht (And.intro m0 (And.intro m1 (And.intro m2 (And.intro fs fd))))))
  have HR := Lib.hid hR
  have HQ := Lib.hid hrec
  have eb : ((pr[0].toNat : Int) != (key[0].toNat : Int)) = true := by rw [bne_iff_ne]; intro e; exact hne (UInt8.toNat_inj.1 (by omega))
  have e1 : (0 : Int) < pr.size := by omega
  have e2 : (0 : Int) < key.size := by omega
  have k1 : (1 : Int) ≤ pr.size := by omega
  have k2 : (1 : Int) ≤ key.size := by omega
  have k3 : 1 ≤ pr.size := hp
  have k4 : 1 ≤ key.size := hk
  have z1 : ((0 : Int) == pr.size) = false := beq_eq_false_iff_ne.2 (by omega)
  have HNE := Lib.hid hne
  have hmk := Go.run_make_row' (P := Try.prog) 69 68 (.pointer none) 8 Try.underlying69 infoPtr rfl .i64 .i64 ts (by omega) (by omega)
  clear hu ht m0 m1 m2 fs fd hR hrec hne
  go_enter Try.func21, Try.ntmps21
  go_wp2_with fail
  refine wp_loop_rounds 1 ?_
  rw [rounds_succ]
  go_wp2_with fail
  go_quiet (fail)
  have N1 := h.drewN nq
  have hb1 : b < (w.drewN nq).heap.size := hb
  have hW1 : w.heap.size ≤ (w.drewN nq).heap.size := Nat.le_refl _
  have HW1 := Lib.hid (show (w.drewN nq).heap.size = w.heap.size from rfl)
  have HC1 := Lib.hid ((Chg.refl w rb fp).drewN nq)
  have HS1 := Lib.hid (fun x => (SameBlk.refl w x).drewN nq)
  have HR1 := Lib.hid (HR.out.drewN nq)
  clear h2 h3 hsz hmp hmk0
  generalize w.drewN nq = w1 at N1 hb1 hW1 HW1 HC1 HS1 HR1 ⊢
  have h2 := N1.c2
  have h3 := N1.c3
  have h4 := N1.c4
  have f4 := N1.fz 4
  have hsz := HR1.out.size
  have hrb := HR1.out.lt
  by_cases h1 : pr.size = 1
  focus
    have z3 : ((pr.size : Int) == 1) = true := beq_iff_eq.2 (by omega)
    have HONE := Lib.hid h1
    clear h1
    go_wp2_with (fail)
    obtain ⟨pn, hpn⟩ : ∃ pn, c = pn := ⟨_, rfl⟩
    obtain ⟨fpP, Z0⟩ : ∃ fpP, ZF w (((w1.setCell ⟨b, 4, none⟩ (.slice (some ⟨w1.heap.size + 1, 0, none⟩) ts ts)).alloc (.cells #[.string ⟨#[]⟩, .int .i64 0, .string ⟨#[]⟩, .pointer none, .slice none 0 0] 71)).alloc (.cells (madeCells #[.pointer none] ts) 68)) rb ts idx b c v p pr m' fp fp' pn w1.heap.size (w1.heap.size + 1) fpP :=
      ⟨fp', by rw [← hpn]; exact zf_one N1 HONE.out (X.out.2.1.same fun x _ => HS1.out x) HC1.out f hb1 hrb (fun x hx => by have := hlt x (X.out.2.2.2.2.2.1 x hx); omega) X.out.2.2.2.2.2.2 _ _ rfl rfl⟩
    have Z := Lib.hid Z0
    clear Z0 h2 h3 h4 f4 hsz hrb N1 HC1 HS1 HR1 HW1 hW1 hb1 hmk
    rw [hpn]
    clear hpn
    generalize ((w1.setCell ⟨b, 4, none⟩ (.slice (some ⟨w1.heap.size + 1, 0, none⟩) ts ts)).alloc (.cells #[.string ⟨#[]⟩, .int .i64 0, .string ⟨#[]⟩, .pointer none, .slice none 0 0] 71)).alloc (.cells (madeCells #[.pointer none] ts) 68) = w3 at Z ⊢
    generalize w1.heap.size + 1 = tb at Z ⊢
    generalize w1.heap.size = kn at Z ⊢
  rotate_left
  focus
    have z3 : ((pr.size : Int) == 1) = false := beq_eq_false_iff_ne.2 (by omega)
    go_wp2_with fail
    refine region_tail 10 (by kernel_rfl) (by kernel_rfl) ?_
    simp only [List.take_succ_cons, List.take_zero, List.drop_succ_cons, List.drop_zero]
    repeat still_step
    refine wpStill_nil ?_
    change wpList _ _ _ _ _ (w1.drewN 1)
    have N2 := N1.drewN 1
    have hb2 : b < (w1.drewN 1).heap.size := hb1
    have HW2 := Lib.hid (show (w1.drewN 1).heap.size = w.heap.size from HW1.out)
    have HC2 := Lib.hid (HC1.out.drewN 1)
    have HS2 := Lib.hid (fun x => (HS1.out x).drewN 1)
    have HR2 := Lib.hid (HR1.out.drewN 1)
    clear h2 h3 h4 f4 hsz hrb
    generalize w1.drewN 1 = w2 at N2 hb2 HW2 HC2 HS2 HR2 ⊢
    have h2 := N2.c2
    have h3 := N2.c3
    have h4 := N2.c4
    have f4 := N2.fz 4
    have hsz := HR2.out.size
    have hrb := HR2.out.lt
    have hrb' : rb < w2.heap.size + 1 := by omega
    have hb2' : b < w2.heap.size + 1 := by omega
    have hb2'' : b < w2.heap.size + 1 + 1 := by omega
    have hb2''' : b < w2.heap.size + 2 := by omega
    go_wp2_with fail
    obtain ⟨fpP, Z0⟩ : ∃ fpP, ZF w ((((w2.setCell ⟨b, 4, none⟩ (.slice (some ⟨w2.heap.size + 1 + 1, 0, none⟩) ts ts)).alloc (.cells #[.string ⟨#[]⟩, .int .i64 0, .string (pr.extract 1 pr.size), .pointer (some ⟨c, 0, none⟩), .slice none 0 0] 71)).alloc (.cells #[.string ⟨#[]⟩, .int .i64 0, .string ⟨#[]⟩, .pointer none, .slice none 0 0] 71)).alloc (.cells (madeCells #[.pointer none] ts) 68)) rb ts idx b c v p pr m' fp fp' w2.heap.size (w2.heap.size + 1) (w2.heap.size + 1 + 1) fpP :=
      ⟨_, zf_more N2 (by omega) hps X.out.1 (X.out.2.1.same fun x _ => HS2.out x) HC2.out f hb2 hrb (fun x hx => by have := hlt x (X.out.2.2.2.2.2.1 x hx); have := HW2.out; omega) X.out.2.2.2.2.2.2 _ _ _ rfl rfl rfl⟩
    have Z := Lib.hid Z0
    clear Z0 h2 h3 h4 f4 hsz hrb N1 HC1 HS1 HR1 HW1 hW1 hb1 hmk N2 HC2 HS2 HR2 HW2 hb2 hrb' hb2' hb2'' hb2'''
    generalize (((w2.setCell ⟨b, 4, none⟩ (.slice (some ⟨w2.heap.size + 1 + 1, 0, none⟩) ts ts)).alloc (.cells #[.string ⟨#[]⟩, .int .i64 0, .string (pr.extract 1 pr.size), .pointer (some ⟨c, 0, none⟩), .slice none 0 0] 71)).alloc (.cells #[.string ⟨#[]⟩, .int .i64 0, .string ⟨#[]⟩, .pointer none, .slice none 0 0] 71)).alloc (.cells (madeCells #[.pointer none] ts) 68) = w3 at Z ⊢
    generalize w2.heap.size + 1 + 1 = tb at Z ⊢
    generalize w2.heap.size + 1 = kn at Z ⊢
    generalize w2.heap.size = pn at Z ⊢
  all_goals
    have hbt : b ≠ tb := by have := Z.out.tbl; omega
    have hrt : rb ≠ tb := by have := Z.out.tbl; have := HR.out.lt; omega
    have hbk : b ≠ kn := by have := Z.out.knl; omega
    have hii : idx pr[0] ≠ idx key[0] := fun e => HNE.out (HR.out.inj _ _ hx e)
    have R3 := HR.out.chg Z.out.chg
    have h43 := Z.out.n3.c4
    have h23 := Z.out.n3.c2
    have hmp := R3.map pr[0]
    have hm1 : (pr[0].toNat : Int) < 256 := by have := pr[0].toNat_lt; omega
    have hm2 : (idx pr[0] : Int) < ts := by omega
    have tc0 := Z.out.tc _ hx
    have tz0 := Z.out.tz (idx pr[0])
    refine region_tail 16 (by kernel_rfl) (by kernel_rfl) ?_
    simp only [List.take_succ_cons, List.take_zero, List.drop_succ_cons, List.drop_zero]
    repeat still_step
    refine wpStill_nil ?_
    change wpList _ _ _ _ _ (w3.drewN 1)
    have Z4 := Lib.hid (Z.out.drewN 1)
    clear Z h43 h23 hmp tc0 tz0 R3
    generalize w3.drewN 1 = w4 at Z4 ⊢
    have tc0 := Z4.out.tc _ hx
    have tz0 := Z4.out.tz (idx pr[0])
    go_wp2_with fail
    have R4 := HR.out.chg Z4.out.chg
    have hmp5 : (w4.setCell ⟨tb, idx pr[0], none⟩ (.pointer (some ⟨pn, 0, none⟩))).cell? ⟨rb, 6 + key[0].toNat, none⟩ = some (.int .u8 (idx key[0])) := by rw [cs_other _ _ _ _ _ _ (.inl hrt)]; exact R4.map key[0]
    have h45 : (w4.setCell ⟨tb, idx pr[0], none⟩ (.pointer (some ⟨pn, 0, none⟩))).cell? ⟨b, 4, none⟩ = some (.slice (some ⟨tb, 0, none⟩) ts ts) := by rw [cs_other _ _ _ _ _ _ (.inl hbt)]; exact Z4.out.n3.c4
    have HW5 := Lib.hid (show w4.setCell ⟨tb, idx pr[0], none⟩ (.pointer (some ⟨pn, 0, none⟩)) = w4.setCell ⟨tb, idx pr[0], none⟩ (.pointer (some ⟨pn, 0, none⟩)) from rfl)
    generalize hw5 : w4.setCell ⟨tb, idx pr[0], none⟩ (.pointer (some ⟨pn, 0, none⟩)) = w5 at hmp5 h45 HW5 ⊢
    have H5 := Lib.hid hw5
    have hm3 : (key[0].toNat : Int) < 256 := by have := key[0].toNat_lt; omega
    have hm4 : (idx key[0] : Int) < ts := by omega
    clear hw5 HW5 tc0 tz0 R4
    refine region_tail 13 (by kernel_rfl) (by kernel_rfl) ?_
    simp only [List.take_succ_cons, List.take_zero, List.drop_succ_cons, List.drop_zero]
    repeat still_step
    refine wpStill_nil ?_
    change wpList _ _ _ _ _ (w5.drewN 1)
    have tc6 : (w5.drewN 1).cell? ⟨tb, idx key[0], none⟩ = some (.pointer none) := by
      show w5.cell? _ = _
      rw [← H5.out, cs_other _ _ _ _ _ _ (.inr (Ne.symm hii))]; exact Z4.out.tc _ hy
    have tz6 : (w5.drewN 1).frozen? ⟨tb, idx key[0], none⟩ = false := by
      show w5.frozen? _ = _
      rw [← H5.out, fz_set]; exact Z4.out.tz _
    have N6 : NodeAt (w5.drewN 1) b v p pr (.pointer (some ⟨c, 0, none⟩)) (.slice (some ⟨tb, 0, none⟩) ts ts) := (Z4.out.n3.same (by rw [← H5.out]; exact (SameBlk.refl _ _).set hbt _)).drewN 1
    have H6 := Lib.hid (show (w5.drewN 1) = (w4.setCell ⟨tb, idx pr[0], none⟩ (.pointer (some ⟨pn, 0, none⟩))).drewN 1 by rw [H5.out])
    clear hmp5 h45
    generalize w5.drewN 1 = w6 at tc6 tz6 N6 H6 ⊢
    have h26 := N6.c2
    have h36 := N6.c3
    have f26 := N6.fz 2
    have f36 := N6.fz 3
    go_wp2_with fail
    obtain ⟨hu, ht, m0, m1, m2, fs, fd⟩ := X.out
    obtain ⟨T7, hk7, C7, fin⟩ := zero_pack (q := q) (val := val) hp hk h.c4 Z4.out H6.out hx hy HNE.out HR.out m0 m1 m2 f fs fd hlt _ rfl
    have FIN := Lib.hid fin
    clear m0 m1 m2 fs fd hu ht fin
    refine (HQ.out _ kn _ _ T7 (fun x hx' => by subst hx'; exact hk7) (HR.out.chg C7)).mono ?_
    rintro e we ⟨rfl, A⟩
    go_wp2_with fail
    go_end0
    exact ⟨rfl, FIN.out we A⟩
end Go.Proofs.Ytlhlehmmaoadgaa
