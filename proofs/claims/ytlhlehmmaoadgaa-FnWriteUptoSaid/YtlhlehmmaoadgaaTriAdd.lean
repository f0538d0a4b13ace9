/- The walk of trieNode.add: a key more in the trie. -/
import Derived.Test.YtlhlehmmaoadgaaTriOps
import Derived.Test.YtlhlehmmaoadgaaRows
import Derived.WalkKit
import Derived.WalkSpells
import Derived.WalkLawsBesides
import Derived.WalkSmall
import Derived.OwnWalk
import Derived.RegionTactic
import Derived.ChangeAlike
import Derived.BigRegion
import Derived.BigCall
import Derived.BigGuard
import Derived.BigQuiet
import Derived.Deep.QuietTactic
import Derived.StillTailTactics
import Derived.KernelRfl
import Derived.Outline
import Derived.Lib.Walk
import Derived.Lib.Strings
import Derived.Lib.IndexBytes
import Derived.Lib.CutLaws
import Derived.Laws.NewBlocks
namespace Go.Proofs.Ytlhlehmmaoadgaa
open Go.RowKit Go.Lib
set_option linter.unusedVariables false

theorem empty_of2 (s : ByteArray) : s.toList.isEmpty = decide (s.size = 0) := by
  rw [Lib.toList_data, Bool.eq_iff_iff, List.isEmpty_iff, decide_eq_true_iff, ← List.length_eq_zero_iff]
  have : s.data.toList.length = s.size := by simp
  rw [this]
/-- a region that reads, and a tail in one order -/
theorem region_tail {P : Program} {id : Nat} {Q : Exit → Act → World → Prop} {a : Act} {w : World} {l : List Oper} (n : Nat) (hm : P.follows .mixedOrders = true) (hB : Region.lexTailB .any l.toArray n = true)
    (h : wpStill P l.toArray w.drew (fun a' => wpList P l.toArray Q (l.drop n) a' w.drew) (l.take n) a) : (Code.region id l.toArray true).wp P Q a w := wp_region_still_tail n hm hB h
/-- a bare return of a function without results -/
theorem results_none {fn : Func} (h : fn.results = #[]) (tmps : Array Value) (P : Program) (w : World) : (results fn tmps).run P w = .ok (.tuple #[]) w := by simp [results, h]
theorem neqNil (w : World) (a : Option Addr) (n c n' c' : Nat) : (binOp .neq 69 (.slice a n c) (.slice none n' c')).run Try.prog w = .ok (.bool (!a.isNone)) w :=
  run_neq_slice_nil_any w _ _ a n c n' c' Try.underlying69

set_option maxHeartbeats 1600000 in
set_option maxRecDepth 100000 in
theorem add_empty_old (b rb p q : Nat) (v val pr : ByteArray) (nx tb : Value) (w : World) (hn : NodeAt w b v p pr nx tb) (hp : p ≠ 0) :
    Calls Try.prog 21 #[.pointer (some ⟨b, 0, none⟩), .string ⟨#[]⟩, .string val, .int .i64 q, .pointer (some ⟨rb, 0, none⟩)] w fun e w' => e = .returned (.tuple #[]) ∧ w = w' := by
  have h1 := hn.c1
  have hpz : ((p : Int) == 0) = false := beq_eq_false_iff_ne.2 (by omega)
  go_enter Try.func21, Try.ntmps21
  go_wp2_with fail
  refine bodyPost_ret (results_none rfl _ _ _) rfl ?_
  exact ⟨rfl, rfl⟩

set_option maxHeartbeats 1600000 in
set_option maxRecDepth 100000 in
theorem add_empty_new (b rb q : Nat) (v val pr : ByteArray) (nx tb : Value) (w : World) (hn : NodeAt w b v 0 pr nx tb) :
    Calls Try.prog 21 #[.pointer (some ⟨b, 0, none⟩), .string ⟨#[]⟩, .string val, .int .i64 q, .pointer (some ⟨rb, 0, none⟩)] w fun e w' => e = .returned (.tuple #[]) ∧ (w.setCell ⟨b, 0, none⟩ (.string val)).setCell ⟨b, 1, none⟩ (.int .i64 q) = w' := by
  have h1 := hn.c1
  have h0 := hn.c0
  have f0 := hn.fz 0
  have f1 := hn.fz 1
  go_enter Try.func21, Try.ntmps21
  go_wp2_with fail
  refine bodyPost_ret (results_none rfl _ _ _) rfl ?_
  exact ⟨rfl, rfl⟩

/-- what 'add' does at a key, wherever the trie lies -/
def AddOk (rb ts : Nat) (idx : UInt8 → Nat) (key val : ByteArray) (q : Nat) : Prop :=
  ∀ (w : World) (b : Nat) (m : Keys) (fp : Nat → Prop), Tri w rb ts idx b m fp → (∀ x, fp x → x < w.heap.size) → RepAt w rb ts idx →
    Calls Try.prog 21 #[.pointer (some ⟨b, 0, none⟩), .string key, .string val, .int .i64 q, .pointer (some ⟨rb, 0, none⟩)] w fun e w' => e = .returned (.tuple #[]) ∧ AddPost w rb ts idx b m fp key.data.toList q val w'

theorem add_nil (rb ts : Nat) (idx : UInt8 → Nat) (val : ByteArray) (q : Nat) (hq : q ≠ 0) : AddOk rb ts idx ⟨#[]⟩ val q := by
  intro w b m fp hT hlt hR
  obtain ⟨v, p, pr, nx, tb, hn, hm, htop⟩ := hT.top
  by_cases hp : p = 0
  · subst hp
    refine (add_empty_new b rb q v val pr nx tb w hn).mono ?_
    rintro e w' ⟨rfl, rfl⟩
    have C : Chg w ((w.setCell ⟨b, 0, none⟩ (.string val)).setCell ⟨b, 1, none⟩ (.int .i64 q)) rb (fun x => x = b) :=
      ((Chg.refl w rb (fun x => x = b)).put b 0 _ (.inl rfl) (fun _ => by decide)).put b 1 _ (.inl rfl) (fun _ => by decide)
    refine ⟨rfl, addPost_here (v' := val) (p' := q) hT hlt C (fun g n c hg => by rw [cs_other _ _ _ _ _ _ (.inr (by decide)), cs_other _ _ _ _ _ _ (.inr (by decide))]; exact hg) (htop _ val q ((hn.set0 val).set1 q) (fun x hx hne => ?_) _ (addK_nil_new hm hq val) (fun k hk => addK_ne hk _ _))⟩
    exact ((SameBlk.refl w x).set hne _).set hne _
  · refine (add_empty_old b rb p q v val pr nx tb w hn hp).mono ?_
    rintro e w' ⟨rfl, rfl⟩
    exact ⟨rfl, addPost_here (v' := v) (p' := p) hT hlt (Chg.refl _ _ _) (fun g n c hg => hg) (hT.congr (addK_nil_old hm hp q val))⟩

set_option maxHeartbeats 1600000 in
set_option maxRecDepth 100000 in
theorem add_leaf (rb ts : Nat) (idx : UInt8 → Nat) (b p q : Nat) (v val key : ByteArray) (w : World) (m : Keys) (fp : Nat → Prop) (hn : NodeAt w b v p ⟨#[]⟩ (.pointer none) (.slice none 0 0))
    (m0 : m [] = here p v) (m1 : ∀ k, k ≠ [] → m k = none) (f : fp b) (hlt : ∀ x, fp x → x < w.heap.size) (hR : RepAt w rb ts idx) (hk : 0 < key.size) (hks : key.size < 4611686018427387904) (hu : ∀ x ∈ key.data.toList, idx x < ts) (hq : q ≠ 0) :
    Calls Try.prog 21 #[.pointer (some ⟨b, 0, none⟩), .string key, .string val, .int .i64 q, .pointer (some ⟨rb, 0, none⟩)] w fun e w' => e = .returned (.tuple #[]) ∧ AddPost w rb ts idx b m fp key.data.toList q val w' := by
  have he : key.toList.isEmpty = false := by rw [empty_of2]; exact decide_eq_false (by omega)
  have h2 := hn.c2
  have h3 := hn.c3
  have h4 := hn.c4
  have f2 := hn.fz 2
  have f3 := hn.fz 3
  have q91 := neqNil
  have hb := hlt b f
  have M0 := Lib.hid m0
  have M1 := Lib.hid m1
  clear m0 m1
  go_enter Try.func21, Try.ntmps21
  go_wp2_with fail
  generalize hw3 : ((w.setCell ⟨b, 2, none⟩ (.string key)).setCell ⟨b, 3, none⟩ (.pointer (some ⟨w.heap.size, 0, none⟩))).alloc (.cells #[.string ⟨#[]⟩, .int .i64 0, .string ⟨#[]⟩, .pointer none, .slice none 0 0] 71) = w3
  have C3 : Chg w w3 rb fp := by
    rw [← hw3]
    exact (((Chg.refl w rb fp).put b 2 _ (.inl f) (fun _ => by decide)).put b 3 _ (.inl f) (fun _ => by decide)).alloc (by simpa using hR.lt) _
  have hs3 : w3.heap.size = w.heap.size + 1 := by rw [← hw3]; simp
  have hbn : b ≠ w.heap.size := by omega
  have N3 : NodeAt w3 b v p key (.pointer (some ⟨w.heap.size, 0, none⟩)) (.slice none 0 0) := by
    rw [← hw3]
    exact ((hn.set2 key).set3 _).same ((SameBlk.refl _ b).alloc (by simpa using hb) _)
  have K3 : NodeAt w3 w.heap.size ⟨#[]⟩ 0 ⟨#[]⟩ (.pointer none) (.slice none 0 0) := by
    rw [← hw3]
    exact NodeAt.new _ _ (by simp) _ _ _ _ _ _
  have T3 : Tri w3 rb ts idx w.heap.size (fun _ => none) (fun x => x = w.heap.size) := .leaf K3 (by simp [here]) (fun _ _ => rfl) rfl
  have HS := Lib.hid hs3
  clear hw3 hs3
  refine (add_nil rb ts idx val q hq w3 w.heap.size _ _ T3 (fun x hx => by subst hx; rw [HS.out]; omega) (hR.chg C3)).mono ?_
  rintro e w1 ⟨rfl, A⟩
  go_wp2_with fail
  go_end0
  refine ⟨rfl, AddPost.after C3 (fp1 := fun x => fp x ∨ x = w.heap.size) (fun x hx => hx.imp id (fun h => by omega)) (TabKept.none hn.c4) ?_⟩
  have hkl : key.data.toList = key.data.toList ++ [] := by simp
  rw [hkl]
  refine addPost_pre (m' := fun _ => none) (fp' := fun x => x = w.heap.size) N3 hk hks hu M0.out (fun k => M1.out _ (app_ne hk k)) (fun k hk' _ => M1.out k hk') (.inl f) (fun x hx => .inr hx) hbn (by rw [HS.out]; omega) A
theorem get0_mem (key : ByteArray) (hk : 0 < key.size) : key[0] ∈ key.data.toList := by
  have : key.data.toList[0]'(by simpa using hk) = key[0] := rfl
  rw [← this]; exact List.getElem_mem _
theorem cons_of (key : ByteArray) (hk : 0 < key.size) : key.data.toList = key[0] :: (key.extract 1 key.size).data.toList := by
  have h1 : 0 < key.data.toList.length := by simpa using hk
  rw [Lib.extract_to_end]
  conv => lhs; rw [← List.drop_zero (l := key.data.toList), List.drop_eq_getElem_cons h1]
  rfl

set_option maxHeartbeats 1600000 in
set_option maxRecDepth 100000 in
theorem add_tab_kid (rb ts : Nat) (idx : UInt8 → Nat) (b tb p q c : Nat) (v val key : ByteArray) (w : World) (m : Keys) (kid : Nat → Option Nat) (ms : Nat → Keys) (fp : Nat → Prop) (fps : Nat → Nat → Prop)
    (h : NodeAt w b v p ⟨#[]⟩ (.pointer none) (.slice (some ⟨tb, 0, none⟩) ts ts)) (hc : ∀ i, i < ts → w.cell? ⟨tb, i, none⟩ = some (ptrOf (kid i))) (hz : ∀ o, w.frozen? ⟨tb, o, none⟩ = false)
    (ht : ∀ i c, i < ts → kid i = some c → Tri w rb ts idx c (ms i) (fps i)) (hn : ∀ i, i < ts → kid i = none → (∀ k, ms i k = none) ∧ ∀ x, ¬ fps i x)
    (m0 : m [] = here p v) (m1 : ∀ x k, m (x :: k) = if idx x < ts then ms (idx x) k else none)
    (f : fp b) (ft : fp tb) (fs : ∀ i x, i < ts → fps i x → fp x) (fd : ∀ i, i < ts → ¬ fps i b ∧ ¬ fps i tb) (fdd : ∀ i j x, i < ts → j < ts → i ≠ j → fps i x → ¬ fps j x) (hbt : b ≠ tb) (htr : tb ≠ rb)
    (hlt : ∀ x, fp x → x < w.heap.size) (hR : RepAt w rb ts idx) (hk : 0 < key.size) (hks : key.size < 4611686018427387904) (hy : idx key[0] < ts) (hkid : kid (idx key[0]) = some c)
    (hrec : AddOk rb ts idx (key.extract 1 key.size) val q) :
    Calls Try.prog 21 #[.pointer (some ⟨b, 0, none⟩), .string key, .string val, .int .i64 q, .pointer (some ⟨rb, 0, none⟩)] w fun e w' => e = .returned (.tuple #[]) ∧ AddPost w rb ts idx b m fp key.data.toList q val w' := by
  have he : key.toList.isEmpty = false := by rw [empty_of2]; exact decide_eq_false (by omega)
  have h2 := h.c2
  have h3 := h.c3
  have h4 := h.c4
  have q91 := neqNil
  have hb := hlt b f
  have hkc : w.cell? ⟨tb, idx key[0], none⟩ = some (.pointer (some ⟨c, 0, none⟩)) := by rw [hc _ hy, hkid]; rfl
  have hmap := hR.map key[0]
  have hle := hR.le
  have hyI : (idx key[0] : Int) < ts := by omega
  have hk8 : (key[0].toNat : Int) < 256 := by have := key[0].toNat_lt; omega
  have hk0 : (0 : Int) < key.size := by omega
  have hk1 : (1 : Int) ≤ key.size := by omega
  have hk2 : 1 ≤ key.size := hk
  have X := Lib.hid (And.intro hc (And.intro hz (And.intro ht (And.intro hn (And.intro m0 (And.intro m1 (And.intro fs (And.intro fd (And.intro fdd hkid)))))))))
  have HR := Lib.hid hR
  have HQ := Lib.hid hrec
  clear hc hz ht hn m0 m1 fs fd fdd hkid hR hrec
  go_enter Try.func21, Try.ntmps21
  go_wp2_with fail
  go_quiet (fail)
  go_wp2_with fail
  refine region_tail 12 (by kernel_rfl) (by kernel_rfl) ?_
  simp only [List.take_succ_cons, List.take_zero, List.drop_succ_cons, List.drop_zero]
  repeat still_step
  refine wpStill_nil ?_
  go_wp2_with fail
  refine (HQ.out (w.drewN (nq + 1)) c _ _ ((X.out.2.2.1 _ c hy X.out.2.2.2.2.2.2.2.2.2).drewN _) (fun x hx => hlt x (X.out.2.2.2.2.2.2.1 _ x hy hx)) (HR.out.drewN _)).mono ?_
  rintro e w1 ⟨rfl, A⟩
  go_wp2_with fail
  go_end0
  refine ⟨rfl, ?_⟩
  rw [cons_of key hk]
  obtain ⟨hc, hz, ht, hn, m0, m1, fs, fd, fdd, hkid⟩ := X.out
  exact addPost_tab h hc hz ht hn m0 m1 f ft fs fd fdd hbt htr hlt HR.out.inj hy hkid A.of_drewN
set_option maxHeartbeats 1600000 in
set_option maxRecDepth 100000 in
theorem add_tab_nil (rb ts : Nat) (idx : UInt8 → Nat) (b tb p q : Nat) (v val key : ByteArray) (w : World) (m : Keys) (kid : Nat → Option Nat) (ms : Nat → Keys) (fp : Nat → Prop) (fps : Nat → Nat → Prop)
    (h : NodeAt w b v p ⟨#[]⟩ (.pointer none) (.slice (some ⟨tb, 0, none⟩) ts ts)) (hc : ∀ i, i < ts → w.cell? ⟨tb, i, none⟩ = some (ptrOf (kid i))) (hz : ∀ o, w.frozen? ⟨tb, o, none⟩ = false)
    (ht : ∀ i c, i < ts → kid i = some c → Tri w rb ts idx c (ms i) (fps i)) (hn : ∀ i, i < ts → kid i = none → (∀ k, ms i k = none) ∧ ∀ x, ¬ fps i x)
    (m0 : m [] = here p v) (m1 : ∀ x k, m (x :: k) = if idx x < ts then ms (idx x) k else none)
    (f : fp b) (ft : fp tb) (fs : ∀ i x, i < ts → fps i x → fp x) (fd : ∀ i, i < ts → ¬ fps i b ∧ ¬ fps i tb) (fdd : ∀ i j x, i < ts → j < ts → i ≠ j → fps i x → ¬ fps j x) (hbt : b ≠ tb) (htr : tb ≠ rb)
    (hlt : ∀ x, fp x → x < w.heap.size) (hR : RepAt w rb ts idx) (hk : 0 < key.size) (hks : key.size < 4611686018427387904) (hy : idx key[0] < ts) (hkid : kid (idx key[0]) = none)
    (hrec : AddOk rb ts idx (key.extract 1 key.size) val q) :
    Calls Try.prog 21 #[.pointer (some ⟨b, 0, none⟩), .string key, .string val, .int .i64 q, .pointer (some ⟨rb, 0, none⟩)] w fun e w' => e = .returned (.tuple #[]) ∧ AddPost w rb ts idx b m fp key.data.toList q val w' := by
  have he : key.toList.isEmpty = false := by rw [empty_of2]; exact decide_eq_false (by omega)
  have h2 := h.c2
  have h3 := h.c3
  have h4 := h.c4
  have q91 := neqNil
  have hb := hlt b f
  have hkc : w.cell? ⟨tb, idx key[0], none⟩ = some (.pointer none) := by rw [hc _ hy, hkid]; rfl
  have hmap := hR.map key[0]
  have hle := hR.le
  have hzt := hz (idx key[0])
  have htl := hlt tb ft
  have hyI : (idx key[0] : Int) < ts := by omega
  have hk8 : (key[0].toNat : Int) < 256 := by have := key[0].toNat_lt; omega
  have hk0 : (0 : Int) < key.size := by omega
  have hk1 : (1 : Int) ≤ key.size := by omega
  have hk2 : 1 ≤ key.size := hk
  have X := Lib.hid (And.intro hc (And.intro hz (And.intro ht (And.intro hn (And.intro m0 (And.intro m1 (And.intro fs (And.intro fd (And.intro fdd hkid)))))))))
  have HR := Lib.hid hR
  have HQ := Lib.hid hrec
  clear hc hz ht hn m0 m1 fs fd fdd hkid hR hrec
  go_enter Try.func21, Try.ntmps21
  go_wp2_with fail
  go_quiet (fail)
  clear h2 h3 h4 hmap
  have N2 := h.drewN nq
  have hkc2 : (w.drewN nq).cell? ⟨tb, idx key[0], none⟩ = some (.pointer none) := hkc
  have hzt2 : (w.drewN nq).frozen? ⟨tb, idx key[0], none⟩ = false := hzt
  have htl2 : tb < (w.drewN nq).heap.size := htl
  have HW := Lib.hid (show (w.drewN nq).heap.size = w.heap.size from rfl)
  have HC := Lib.hid (Chg.refl w rb fp |>.drewN nq)
  have HS2 := Lib.hid (fun x => (SameBlk.refl w x).drewN nq)
  have HR2 := Lib.hid (HR.out.drewN nq)
  clear hkc hzt
  generalize w.drewN nq = w2 at N2 hkc2 hzt2 htl2 HW HC HS2 HR2 ⊢
  have h4 := N2.c4
  go_wp2_with fail
  generalize hw3 : (w2.setCell ⟨tb, idx key[0], none⟩ (.pointer (some ⟨w2.heap.size, 0, none⟩))).alloc (.cells #[.string ⟨#[]⟩, .int .i64 0, .string ⟨#[]⟩, .pointer none, .slice none 0 0] 71) = w3
  obtain ⟨hc, hz, ht, hn, m0, m1, fs, fd, fdd, hkid⟩ := X.out
  have hs3 : w3.heap.size = w2.heap.size + 1 := by rw [← hw3]; simp
  have hbn : b ≠ w2.heap.size := by rw [HW.out]; omega
  have htn : tb ≠ w2.heap.size := by omega
  have hw2s : w2.heap.size = w.heap.size := HW.out
  have C3 : Chg w w3 rb fp := by
    rw [← hw3]
    exact (HC.out.put tb (idx key[0]) _ (.inl ft) (fun e => absurd e htr)).alloc (by have := HR2.out.lt; simpa using this) _
  have S3 : ∀ x, x < w.heap.size → x ≠ tb → SameBlk w w3 x := fun x hx hne => by
    rw [← hw3]
    exact ((HS2.out x).set hne _).alloc (by simp; omega) _
  have N3 : NodeAt w3 b v p ⟨#[]⟩ (.pointer none) (.slice (some ⟨tb, 0, none⟩) ts ts) := h.same (S3 b hb hbt)
  have K3 : NodeAt w3 w2.heap.size ⟨#[]⟩ 0 ⟨#[]⟩ (.pointer none) (.slice none 0 0) := by
    rw [← hw3]
    exact NodeAt.new _ _ (by simp) _ _ _ _ _ _
  have T3 : Tri w3 rb ts idx w2.heap.size (fun _ => none) (fun x => x = w2.heap.size) := .leaf K3 (by simp [here]) (fun _ _ => rfl) rfl
  have hc3 : ∀ i, i < ts → w3.cell? ⟨tb, i, none⟩ = some (ptrOf (if i = idx key[0] then some w2.heap.size else kid i)) := fun i hi => by
    rw [← hw3, cell_alloc_lt _ _ _ (by simpa using htl2)]
    by_cases e : i = idx key[0]
    · subst e
      rw [World.cell?_setCell_same _ _ _ hkc2, if_pos rfl]; rfl
    · rw [cs_other _ _ _ _ _ _ (.inr e), if_neg e]
      exact ((HS2.out tb) i).1.trans (hc i hi)
  have hz3 : ∀ o, w3.frozen? ⟨tb, o, none⟩ = false := fun o => by
    rw [← hw3, frozen_alloc_lt _ _ _ (by simpa using htl2), fz_set]
    exact ((HS2.out tb) o).2.trans (hz o)
  have hk3 : w3.cell? ⟨tb, idx key[0], none⟩ = some (.pointer (some ⟨w2.heap.size, 0, none⟩)) := by rw [hc3 _ hy, if_pos rfl]; rfl
  have h43 := N3.c4
  have Y := Lib.hid (And.intro hc3 (And.intro hz3 S3))
  have HS := Lib.hid hs3
  have HK := Lib.hid hkid
  have R3 := Lib.hid (HR.out.chg C3)
  have HW2 := Lib.hid hw2s
  have HN2 := Lib.hid hn
  clear hw3 hs3 hc3 hz3 hkid hw2s hc hz ht hn m0 m1 fs fd fdd S3 h4 N2 hkc2 hzt2 HS2 HC
  refine region_tail 12 (by kernel_rfl) (by kernel_rfl) ?_
  simp only [List.take_succ_cons, List.take_zero, List.drop_succ_cons, List.drop_zero]
  repeat still_step
  refine wpStill_nil ?_
  go_wp2_with fail
  refine (HQ.out w3.drew w2.heap.size _ _ (T3.drewN 1) (fun x hx => by subst hx; show _ < w3.heap.size; rw [HS.out]; omega) (R3.out.drewN 1)).mono ?_
  rintro e w1 ⟨rfl, A⟩
  go_wp2_with fail
  go_end0
  refine ⟨rfl, AddPost.after C3 (fp1 := fun x => fp x ∨ x = w2.heap.size) (fun x hx => hx.imp id (fun h => by have := HW2.out; omega)) (fun g n c hg => by rw [h.c4] at hg; rw [N3.c4]; exact hg) ?_⟩
  rw [cons_of key hk]
  obtain ⟨hc, hz, ht, hn, m0, m1, fs, fd, fdd, hkid⟩ := X.out
  obtain ⟨hc3, hz3, S3⟩ := Y.out
  have hws := HW2.out
  refine addPost_tab (kid := fun i => if i = idx key[0] then some w2.heap.size else kid i) (fps := fun i x => if i = idx key[0] then x = w2.heap.size else fps i x) (ms := ms) (c := w2.heap.size)
    N3 hc3 hz3 (fun i c hi hki => ?_) (fun i hi hki => ?_) m0 m1 (.inl f) (.inl ft) (fun i x hi hx => ?_) (fun i hi => ?_) (fun i j x hi hj hij hx => ?_) hbt htr (fun x hx => ?_) HR.out.inj hy (by simp) ?_
  · by_cases e : i = idx key[0]
    · subst e
      simp only [if_pos] at hki ⊢
      obtain rfl := Option.some.inj hki
      exact T3.congr (fun k => ((hn _ hi hkid).1 k).symm)
    · simp only [if_neg e] at hki ⊢
      exact (ht i c hi hki).same fun x hx => S3 x (hlt x (fs i x hi hx)) (fun h' => (fd i hi).2 (h' ▸ hx))
  · by_cases e : i = idx key[0]
    · simp [e] at hki
    · simp only [if_neg e] at hki ⊢
      exact hn i hi hki
  · by_cases e : i = idx key[0]
    · simp only [if_pos e] at hx; exact .inr hx
    · simp only [if_neg e] at hx; exact .inl (fs i x hi hx)
  · by_cases e : i = idx key[0]
    · simp only [if_pos e]; exact ⟨hbn, htn⟩
    · simp only [if_neg e]; exact fd i hi
  · by_cases e : i = idx key[0]
    · have e' : j ≠ idx key[0] := fun h' => hij (e.trans h'.symm)
      simp only [if_pos e] at hx
      simp only [if_neg e']
      intro hx'
      have := hlt x (fs j x hj hx')
      omega
    · simp only [if_neg e] at hx
      by_cases e' : j = idx key[0]
      · simp only [if_pos e']
        intro hx'
        have := hlt x (fs i x hi hx)
        omega
      · simp only [if_neg e']; exact fdd i j x hi hj hij hx
  · rcases hx with hx | hx
    · have := hlt x hx; rw [HS.out]; omega
    · rw [HS.out]; omega
  · have e : ms (idx key[0]) = fun _ => none := funext (hn _ hy hkid).1
    rw [e]
    simp only [if_pos]
    exact A.of_drewN (n := 1)
end Go.Proofs.Ytlhlehmmaoadgaa
