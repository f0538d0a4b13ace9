/- The walk of trieNode.add where a node has a prefix. -/
import Derived.Test.YtlhlehmmaoadgaaTriAdd
namespace Go.Proofs.Ytlhlehmmaoadgaa
open Go.RowKit Go.Lib
set_option linter.unusedVariables false

/-- how far two texts begin alike -/
structure LcpIs (a b : ByteArray) (L : Nat) : Prop where
  la : L ≤ a.size
  lb : L ≤ b.size
  eq : ∀ i (h1 : i < a.size) (h2 : i < b.size), i < L → a[i] = b[i]
  stop : L = a.size ∨ L = b.size ∨ ∃ (h1 : L < a.size) (h2 : L < b.size), a[L] ≠ b[L]
theorem lcp_ex (a b : ByteArray) : ∃ L, LcpIs a b L := by
  have key : ∀ n L, a.size - L = n → L ≤ a.size → L ≤ b.size → (∀ i (h1 : i < a.size) (h2 : i < b.size), i < L → a[i] = b[i]) → ∃ L, LcpIs a b L := by
    intro n
    induction n with
    | zero => intro L h h1 h2 h3; exact ⟨L, h1, h2, h3, .inl (by omega)⟩
    | succ n ih =>
      intro L h h1 h2 h3
      by_cases hb : L = b.size
      · exact ⟨L, h1, h2, h3, .inr (.inl hb)⟩
      · have ha : L < a.size := by omega
        have hb' : L < b.size := by omega
        by_cases e : a[L] = b[L]
        · exact ih (L + 1) (by omega) (by omega) (by omega) (fun i x y hi => by
            by_cases e' : i = L
            · subst e'; exact e
            · exact h3 i x y (by omega))
        · exact ⟨L, h1, h2, h3, .inr (.inr ⟨ha, hb', e⟩)⟩
  exact key _ 0 rfl (Nat.zero_le _) (Nat.zero_le _) (fun _ _ _ h => absurd h (Nat.not_lt_zero _))
theorem lcp_take {a b : ByteArray} {L : Nat} (h : LcpIs a b L) : a.data.toList.take L = b.data.toList.take L := by
  apply List.ext_getElem?
  intro i
  by_cases hi : i < L
  · rw [List.getElem?_take_of_lt hi, List.getElem?_take_of_lt hi]
    have h1 : i < a.size := Nat.lt_of_lt_of_le hi h.la
    have h2 : i < b.size := Nat.lt_of_lt_of_le hi h.lb
    have e1 : a.data.toList[i]? = some a[i] := by rw [List.getElem?_eq_getElem (by simpa using h1)]; rfl
    have e2 : b.data.toList[i]? = some b[i] := by rw [List.getElem?_eq_getElem (by simpa using h2)]; rfl
    rw [e1, e2, h.eq i h1 h2 hi]
  · rw [List.getElem?_eq_none (by rw [List.length_take]; omega), List.getElem?_eq_none (by rw [List.length_take]; omega)]
/-- a text whose beginning is all of another one -/
theorem lcp_full {a b : ByteArray} (h : LcpIs a b a.size) : b.data.toList = a.data.toList ++ (b.extract a.size b.size).data.toList := by
  have e := lcp_take h
  rw [List.take_of_length_le (by simp)] at e
  rw [Lib.extract_to_end, e, List.take_append_drop]

def PfRel (w : World) (L : Nat) (n : Value) (wr : World) : Prop := ∃ i k : Nat, n = .int .i64 i ∧ i ≤ L ∧ wr = w.drewN k
set_option maxHeartbeats 1600000 in
set_option maxRecDepth 100000 in
theorem add_pre_full (rb ts : Nat) (idx : UInt8 → Nat) (b c p q : Nat) (v val pr key : ByteArray) (w : World) (m m' : Keys) (fp fp' : Nat → Prop)
    (h : NodeAt w b v p pr (.pointer (some ⟨c, 0, none⟩)) (.slice none 0 0)) (hp : 0 < pr.size) (hps : pr.size < 4611686018427387904) (hu : ∀ x ∈ pr.data.toList, idx x < ts) (ht : Tri w rb ts idx c m' fp')
    (m0 : m [] = here p v) (m1 : ∀ k, m (pr.data.toList ++ k) = m' k) (m2 : ∀ k, k ≠ [] → ¬ pr.data.toList <+: k → m k = none) (f : fp b) (fs : ∀ x, fp' x → fp x) (fd : ¬ fp' b)
    (hlt : ∀ x, fp x → x < w.heap.size) (hR : RepAt w rb ts idx) (hk : 0 < key.size) (hks : key.size < 4611686018427387904) (hL : LcpIs pr key pr.size)
    (hrec : AddOk rb ts idx (key.extract pr.size key.size) val q) :
    Calls Try.prog 21 #[.pointer (some ⟨b, 0, none⟩), .string key, .string val, .int .i64 q, .pointer (some ⟨rb, 0, none⟩)] w fun e w' => e = .returned (.tuple #[]) ∧ AddPost w rb ts idx b m fp key.data.toList q val w' := by
  have he : key.toList.isEmpty = false := by rw [empty_of2]; exact decide_eq_false (by omega)
  have hpe : pr.toList.isEmpty = false := by rw [empty_of2]; exact decide_eq_false (by omega)
  have h2 := h.c2
  have h3 := h.c3
  have hb := hlt b f
  have hlb := hL.lb
  have X := Lib.hid (And.intro hu (And.intro ht (And.intro m0 (And.intro m1 (And.intro m2 (And.intro fs fd))))))
  have HR := Lib.hid hR
  have HQ := Lib.hid hrec
  have HL := Lib.hid hL
  clear hu ht m0 m1 m2 fs fd hR hrec hL
  go_enter Try.func21, Try.ntmps21
  go_wp2_with fail
  go_loopw [10] (PfRel w pr.size) (fun n _ => pr.size - (RowKit.intOf n).toNat)
  case atStart => exact ⟨0, 0, rfl, Nat.zero_le _, rfl⟩
  case round =>
    obtain ⟨i, k, rfl, hi, rfl⟩ := hrel
    by_cases hlt2 : i < pr.size
    · have hik : i < key.size := by omega
      have e1 : (i : Int) < pr.size := by omega
      have e2 : (i : Int) < key.size := by omega
      have eq := HL.out.eq i hlt2 hik hlt2
      have eb : ((pr[i].toNat : Int) != (key[i].toNat : Int)) = false := by rw [eq]; simp
      clear eq
      go_wp2_with fail
      go_quiet (fail)
      go_wp2_with fail
      go_roundw
      case rel => exact ⟨i + 1, _, by go_num, by omega, rfl⟩
      case measure => simp [RowKit.intOf]; omega
    · obtain rfl : i = pr.size := by omega
      clear hlt2
      have e1 : ¬ ((pr.size : Int) < pr.size) := by omega
      have k1 : (0 : Int) ≤ pr.size := by omega
      have k2 : (pr.size : Int) ≤ key.size := by omega
      go_wp2_with fail
      refine region_tail 10 (by kernel_rfl) (by kernel_rfl) ?_
      simp only [List.take_succ_cons, List.take_zero, List.drop_succ_cons, List.drop_zero]
      repeat still_step
      refine wpStill_nil ?_
      go_wp2_with fail
      refine (HQ.out (w.drewN (k + 1)) c _ _ (X.out.2.1.drewN _) (fun x hx => hlt x (X.out.2.2.2.2.2.1 x hx)) (HR.out.drewN _)).mono ?_
      rintro e w1 ⟨rfl, A⟩
      go_wp2_with fail
      go_end0
      refine ⟨rfl, ?_⟩
      obtain ⟨hu, ht, m0, m1, m2, fs, fd⟩ := X.out
      rw [lcp_full HL.out]
      exact addPost_pre h hp hps hu m0 m1 m2 f fs fd hb A.of_drewN
/-- what stands behind a prefix alone -/
def preK (pr : List UInt8) (m : Keys) : Keys := fun k => if pr <+: k then m (k.drop pr.length) else none
theorem preK_app (pr k : List UInt8) (m : Keys) : preK pr m (pr ++ k) = m k := by
  unfold preK
  rw [if_pos (List.prefix_append _ _)]
  simp
theorem preK_none (pr k : List UInt8) (m : Keys) (h : ¬ pr <+: k) : preK pr m k = none := by unfold preK; rw [if_neg h]
theorem split_at (pr : ByteArray) (L : Nat) (h : L ≤ pr.size) : pr.data.toList = (pr.extract 0 L).data.toList ++ (pr.extract L pr.size).data.toList := by
  rw [Lib.extract_to_end, Lib.extract_data]; simp
theorem lcp_split {a b : ByteArray} {L : Nat} (h : LcpIs a b L) : b.data.toList = (a.extract 0 L).data.toList ++ (b.extract L b.size).data.toList := by
  rw [Lib.extract_to_end, Lib.extract_data]
  simp only [List.drop_zero, Nat.sub_zero]
  rw [lcp_take h, List.take_append_drop]
theorem preK_split {m m' : Keys} {pr : ByteArray} {L : Nat} (hL : L ≤ pr.size) (h0 : 0 < L) (m1 : ∀ k, m (pr.data.toList ++ k) = m' k) (m2 : ∀ k, k ≠ [] → ¬ pr.data.toList <+: k → m k = none) (k : List UInt8) :
    m ((pr.extract 0 L).data.toList ++ k) = preK (pr.extract L pr.size).data.toList m' k := by
  by_cases h : (pr.extract L pr.size).data.toList <+: k
  · obtain ⟨t, rfl⟩ := h
    rw [preK_app, ← List.append_assoc, ← split_at pr L hL, m1]
  · rw [preK_none _ _ _ h]
    refine m2 _ (app_ne (by simp; omega) k) (fun hh => h ?_)
    rw [split_at pr L hL] at hh
    exact (List.prefix_append_right_inj _).1 hh

set_option maxHeartbeats 3200000 in
set_option maxRecDepth 100000 in
theorem add_pre_mid (rb ts : Nat) (idx : UInt8 → Nat) (b c p q L : Nat) (v val pr key : ByteArray) (w : World) (m m' : Keys) (fp fp' : Nat → Prop)
    (h : NodeAt w b v p pr (.pointer (some ⟨c, 0, none⟩)) (.slice none 0 0)) (hp : 0 < pr.size) (hps : pr.size < 4611686018427387904) (hu : ∀ x ∈ pr.data.toList, idx x < ts) (ht : Tri w rb ts idx c m' fp')
    (m0 : m [] = here p v) (m1 : ∀ k, m (pr.data.toList ++ k) = m' k) (m2 : ∀ k, k ≠ [] → ¬ pr.data.toList <+: k → m k = none) (f : fp b) (fs : ∀ x, fp' x → fp x) (fd : ¬ fp' b)
    (hlt : ∀ x, fp x → x < w.heap.size) (hR : RepAt w rb ts idx) (hk : 0 < key.size) (hks : key.size < 4611686018427387904) (hL : LcpIs pr key L) (hL0 : 0 < L) (hLp : L < pr.size)
    (hrec : AddOk rb ts idx (key.extract L key.size) val q) :
    Calls Try.prog 21 #[.pointer (some ⟨b, 0, none⟩), .string key, .string val, .int .i64 q, .pointer (some ⟨rb, 0, none⟩)] w fun e w' => e = .returned (.tuple #[]) ∧ AddPost w rb ts idx b m fp key.data.toList q val w' := by
  have he : key.toList.isEmpty = false := by rw [empty_of2]; exact decide_eq_false (by omega)
  have hpe : pr.toList.isEmpty = false := by rw [empty_of2]; exact decide_eq_false (by omega)
  have h2 := h.c2
  have h3 := h.c3
  have hb := hlt b f
  have hlb := hL.lb
  have X := Lib.hid (And.intro hu (And.intro ht (And.intro m0 (And.intro m1 (And.intro m2 (And.intro fs fd))))))
  have HR := Lib.hid hR
  have HQ := Lib.hid hrec
  have HL := Lib.hid hL
  clear hu ht m0 m1 m2 fs fd hR hrec hL
  go_enter Try.func21, Try.ntmps21
  go_wp2_with fail
  go_loopw [10] (PfRel w L) (fun n _ => pr.size - (RowKit.intOf n).toNat)
  case atStart => exact ⟨0, 0, rfl, Nat.zero_le _, rfl⟩
  case round =>
    obtain ⟨i, k, rfl, hi, rfl⟩ := hrel
    by_cases hlt2 : i < L
    · have hip : i < pr.size := by omega
      have hik : i < key.size := by omega
      have e1 : (i : Int) < pr.size := by omega
      have e2 : (i : Int) < key.size := by omega
      have eq := HL.out.eq i hip hik hlt2
      have eb : ((pr[i].toNat : Int) != (key[i].toNat : Int)) = false := by rw [eq]; simp
      clear eq
      go_wp2_with fail
      go_quiet (fail)
      go_wp2_with fail
      go_roundw
      case rel => exact ⟨i + 1, _, by go_num, by omega, rfl⟩
      case measure => simp [RowKit.intOf]; omega
    · obtain rfl : i = L := by omega
      clear hlt2 hi
      have e1 : (i : Int) < pr.size := by omega
      have k1 : (0 : Int) ≤ i := by omega
      have k2 : (i : Int) ≤ key.size := by omega
      have k3 : (i : Int) ≤ pr.size := by omega
      have z1 : ((i : Int) == pr.size) = false := beq_eq_false_iff_ne.2 (by omega)
      have z2 : ((i : Int) == 0) = false := beq_eq_false_iff_ne.2 (by omega)
      have stop : (key.size ≤ i) ∨ ∃ h2 : i < key.size, ((pr[i].toNat : Int) != (key[i].toNat : Int)) = true := by
        rcases HL.out.stop with h | h | ⟨a1, a2, h⟩
        · omega
        · exact .inl (by omega)
        · refine .inr ⟨a2, ?_⟩
          rw [bne_iff_ne]
          intro e
          exact h (UInt8.toNat_inj.1 (by omega))
      rcases stop with e2 | ⟨hik, eb⟩
      focus
        have e2' : ¬ ((i : Int) < key.size) := by omega
        go_wp2_with fail
        generalize k = n2
      rotate_left
      focus
        have e2 : (i : Int) < key.size := by omega
        go_wp2_with fail
        go_quiet (fail)
        go_wp2_with fail
        generalize k + nq = n2
      all_goals
        refine region_tail 11 (by kernel_rfl) (by kernel_rfl) ?_
        simp only [List.take_succ_cons, List.take_zero, List.drop_succ_cons, List.drop_zero]
        repeat still_step
        refine wpStill_nil ?_
        change wpList _ _ _ _ _ (w.drewN (n2 + 1))
        have N2 := h.drewN (n2 + 1)
        have hb2 : b < (w.drewN (n2 + 1)).heap.size := hb
        have HW := Lib.hid (show (w.drewN (n2 + 1)).heap.size = w.heap.size from rfl)
        have HC := Lib.hid ((Chg.refl w rb fp).drewN (n2 + 1))
        have HS2 := Lib.hid (fun x => (SameBlk.refl w x).drewN (n2 + 1))
        have HR2 := Lib.hid (HR.out.drewN (n2 + 1))
        clear h2 h3
        generalize w.drewN (n2 + 1) = w2 at N2 hb2 HW HC HS2 HR2 ⊢
        have h2 := N2.c2
        have h3 := N2.c3
        have f2 := N2.fz 2
        have f3 := N2.fz 3
        go_wp2_with fail
        generalize hw3 : ((w2.setCell ⟨b, 2, none⟩ (.string (pr.extract 0 i))).setCell ⟨b, 3, none⟩ (.pointer (some ⟨w2.heap.size, 0, none⟩))).alloc (.cells #[.string ⟨#[]⟩, .int .i64 0, .string (pr.extract i pr.size), .pointer (some ⟨c, 0, none⟩), .slice none 0 0] 71) = w3
        obtain ⟨hu, ht, m0, m1, m2, fs, fd⟩ := X.out
        have hs3 : w3.heap.size = w2.heap.size + 1 := by rw [← hw3]; simp
        have hws : w2.heap.size = w.heap.size := HW.out
        have hbn : b ≠ w2.heap.size := by omega
        have hpls : (pr.extract i pr.size).size = pr.size - i := by simp
        have C3 : Chg w w3 rb fp := by
          rw [← hw3]
          exact ((HC.out.put b 2 _ (.inl f) (fun _ => by decide)).put b 3 _ (.inl f) (fun _ => by decide)).alloc (by have := HR2.out.lt; simpa using this) _
        have S3 : ∀ x, x < w.heap.size → x ≠ b → SameBlk w w3 x := fun x hx hne => by
          rw [← hw3]
          exact (((HS2.out x).set hne _).set hne _).alloc (by simp; omega) _
        have N3 : NodeAt w3 b v p (pr.extract 0 i) (.pointer (some ⟨w2.heap.size, 0, none⟩)) (.slice none 0 0) := by
          rw [← hw3]
          exact ((N2.set2 _).set3 _).same ((SameBlk.refl _ b).alloc (by simpa using hb2) _)
        have K3 : NodeAt w3 w2.heap.size ⟨#[]⟩ 0 (pr.extract i pr.size) (.pointer (some ⟨c, 0, none⟩)) (.slice none 0 0) := by
          rw [← hw3]
          exact NodeAt.new _ _ (by simp) _ _ _ _ _ _
        have hul : ∀ x ∈ (pr.extract 0 i).data.toList, idx x < ts := fun x hx => hu x (by rw [split_at pr i (by omega)]; exact List.mem_append_left _ hx)
        have hur : ∀ x ∈ (pr.extract i pr.size).data.toList, idx x < ts := fun x hx => hu x (by rw [split_at pr i (by omega)]; exact List.mem_append_right _ hx)
        have hpn : 0 < (pr.extract i pr.size).size := by omega
        have T3 : Tri w3 rb ts idx w2.heap.size (preK (pr.extract i pr.size).data.toList m') (fun x => x = w2.heap.size ∨ fp' x) :=
          .pre K3 hpn (by omega) hur (ht.same fun x hx => S3 x (hlt x (fs x hx)) (fun e => fd (e ▸ hx)))
            (by rw [preK_none _ _ _ (fun e => by have := e.length_le; simp at this; omega)]; simp [here]) (fun k => preK_app _ _ _) (fun k _ hn => preK_none _ _ _ hn) (.inl rfl) (fun x hx => .inr hx) (fun hx => by have := hlt _ (fs _ hx); omega)
        have hl3 : ∀ x, (x = w2.heap.size ∨ fp' x) → x < w3.heap.size := fun x hx => by
          rw [hs3]
          rcases hx with rfl | hx
          · omega
          · have := hlt x (fs x hx); omega
        have Y := Lib.hid (And.intro hs3 hws)
        have HLL := Lib.hid hl3
        have HPL := Lib.hid hpls
        clear hw3 hs3 hws hl3 hpls
        refine (HQ.out w3 w2.heap.size _ _ T3 HLL.out (HR.out.chg C3)).mono ?_
        rintro e w1 ⟨rfl, A⟩
        go_wp2_with fail
        go_end0
        obtain ⟨hs3, hws⟩ := Y.out
        refine ⟨rfl, AddPost.after C3 (fp1 := fun x => fp x ∨ x = w2.heap.size) (fun x hx => hx.imp id (fun h => by omega)) (TabKept.none h.c4) ?_⟩
        rw [lcp_split HL.out]
        refine addPost_pre (fp' := fun x => x = w2.heap.size ∨ fp' x) N3 (by simp; omega) (by simp; omega) hul m0 (fun k => preK_split (by omega) hL0 m1 m2 k) (fun k hk' hn => m2 k hk' (fun hh => hn ?_)) (.inl f) (fun x hx => hx.elim (fun h => .inr h) (fun h => .inl (fs x h))) (fun hx => hx.elim hbn fd) (by omega) A
        rw [split_at pr i (by omega)] at hh
        exact (List.prefix_append _ _).trans hh
end Go.Proofs.Ytlhlehmmaoadgaa
