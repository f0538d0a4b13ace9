/- The lookup in the trie: the key in front of a text whose priority is the highest. -/
import Derived.Test.YtlhlehmmaoadgaaGen
import Derived.Test.YtlhlehmmaoadgaaBest
import Derived.LaidEqlPtr
import Derived.Lib.Strings
import Derived.Lib.IndexBytes
namespace Go.Proofs.Ytlhlehmmaoadgaa
open Go.RowKit Go.Lib
set_option linter.unusedVariables false

theorem idxU_le_ts (u : Nat → Bool) (x : UInt8) : idxU u x ≤ cntU u 256 := by
  unfold idxU
  by_cases hu : u x.toNat = true
  · rw [if_pos hu]; exact Nat.le_of_lt (cntU_lt u (b := 256) (show x.toNat < 256 from x.toNat_lt) hu)
  · rw [if_neg hu]; exact Nat.mod_le _ _

/-! ### What has been found, in slots -/
def bv (b : Option (Nat × ByteArray × Nat)) : ByteArray := match b with | none => ⟨#[]⟩ | some (_, v, _) => v
def bn (b : Option (Nat × ByteArray × Nat)) : Nat := match b with | none => 0 | some (_, _, n) => n
def bf (b : Option (Nat × ByteArray × Nat)) : Bool := match b with | none => false | some _ => true
def bp (b : Option (Nat × ByteArray × Nat)) : Nat := match b with | none => 0 | some (p, _, _) => p

theorem better_up {b : Option (Nat × ByteArray × Nat)} {p : Nat} {v : ByteArray} {n : Nat} (h : bp b < p) : better b (here p v) n = some (p, v, n) := by
  unfold here
  rw [if_neg (by omega)]
  cases b with
  | none => rfl
  | some y => obtain ⟨q, v', n'⟩ := y; simp only [better]; rw [if_pos (show q < p from h)]
theorem better_no {b : Option (Nat × ByteArray × Nat)} {p : Nat} {v : ByteArray} {n : Nat} (h : ¬ bp b < p) : better b (here p v) n = b := by
  unfold here
  by_cases e : p = 0
  · rw [if_pos e]; rfl
  · rw [if_neg e]
    cases b with
    | none => simp [bp] at h; omega
    | some y => obtain ⟨q, v', n'⟩ := y; simp only [better]; rw [if_neg (show ¬ q < p from h)]

/-- what a node on the road stands for -/
def OnRoad (m m' : Keys) (s : List UInt8) (n : Nat) : Prop := ∀ t, t <+: s.drop n → m (s.take n ++ t) = m' t
theorem road_cand {m m' : Keys} {s : List UInt8} {n : Nat} (h : OnRoad m m' s n) (ign : Bool) {j : Nat} (hj : n ≤ j) (hs : j ≤ s.length) : candAt m s ign j = if ign = true ∧ j = 0 then none else m' ((s.drop n).take (j - n)) := by
  unfold candAt
  split
  · rfl
  · rw [← h _ (List.take_prefix _ _), ← List.take_add, show n + (j - n) = j by omega]
theorem road_here {m m' : Keys} {s : List UInt8} {n : Nat} (h : OnRoad m m' s n) (ign : Bool) (hs : n ≤ s.length) : candAt m s ign n = if ign = true ∧ n = 0 then none else m' [] := by
  rw [road_cand h ign (Nat.le_refl _) hs]
  simp
/-- nothing stands further on -/
theorem road_end {m : Keys} {s : List UInt8} {n : Nat} (ign : Bool) (hs : n ≤ s.length) (h : ∀ j, n < j → j ≤ s.length → candAt m s ign j = none) : bestOf m s ign = bestTo m s ign (n + 1) := by
  unfold bestOf
  have := bestTo_skip m s ign (n + 1) (s.length - n) (fun j h1 h2 => h j (by omega) (by omega))
  rw [show n + 1 + (s.length - n) = s.length + 1 by omega] at this
  exact this
theorem road_stop {m m' : Keys} {s : List UInt8} {n : Nat} (h : OnRoad m m' s n) (ign : Bool) (hs : n ≤ s.length) (he : ∀ t, t ≠ [] → t <+: s.drop n → m' t = none) : bestOf m s ign = bestTo m s ign (n + 1) :=
  road_end ign hs fun j h1 h2 => by
    rw [road_cand h ign (by omega) h2]
    split
    · rfl
    · refine he _ (fun e => ?_) (List.take_prefix _ _)
      have := congrArg List.length e
      rw [List.length_take, List.length_drop, List.length_nil] at this
      omega
/-- one step down: a byte -/
theorem road_byte {m m' m'' : Keys} {s : List UInt8} {n : Nat} {x : UInt8} {r : List UInt8} (h : OnRoad m m' s n) (hd : s.drop n = x :: r) (hm : ∀ k, m' (x :: k) = m'' k) : OnRoad m m'' s (n + 1) := fun t ht => by
  have e1 : s.drop (n + 1) = r := by rw [← List.drop_drop, hd]; rfl
  have e2 : s.take (n + 1) = s.take n ++ [x] := by
    have hl : n < s.length := by
      rcases Nat.lt_or_ge n s.length with h' | h'
      · exact h'
      · rw [List.drop_of_length_le h'] at hd; cases hd
    rw [List.take_succ_eq_append_getElem hl]
    congr 2
    rw [List.drop_eq_getElem_cons hl] at hd
    injection hd
  rw [e1] at ht
  rw [e2, List.append_assoc, ← hm t]
  exact h _ (by rw [hd]; exact List.cons_prefix_cons.2 ⟨rfl, ht⟩)
/-- one step down: a prefix -/
theorem road_pre {m m' m'' : Keys} {s : List UInt8} {n : Nat} {pr r : List UInt8} (h : OnRoad m m' s n) (hd : s.drop n = pr ++ r) (hm : ∀ k, m' (pr ++ k) = m'' k) : OnRoad m m'' s (n + pr.length) := fun t ht => by
  have e1 : s.drop (n + pr.length) = r := by rw [← List.drop_drop, hd, List.drop_left]
  have e2 : s.take (n + pr.length) = s.take n ++ pr := by rw [List.take_add, hd, List.take_left]
  rw [e1] at ht
  rw [e2, List.append_assoc, ← hm t]
  exact h _ (by rw [hd]; exact (List.prefix_append_right_inj _).2 ht)
theorem pre_between {pr k : List UInt8} (h : k.length < pr.length) : ¬ pr <+: k := fun e => by have := e.length_le; omega

set_option maxHeartbeats 800000 in
theorem hasPre (s q : ByteArray) (hs : s.size < 4611686018427387904) (hq : q.size < 4611686018427387904) (w : World) :
    Calls Try.prog 22 #[.string s, .string q] w fun e w' => e = .returned (.bool (Lib.hasPrefix s.data.toList q.data.toList)) ∧ w = w' := by
  have hr := Lib.hid (Lib.hasPrefix_raw s q)
  by_cases h : q.size ≤ s.size
  · have h1 : decide ((q.size : Int) ≤ s.size) = true := by simp; omega
    have h2 : decide (q.size ≤ s.size) = true := by simpa using h
    go_enter Try.func22, Try.ntmps22
    go_wp2
    go_ret
    rw [← hr.out]
    exact ⟨by simp [h], rfl⟩
  · have h1 : decide ((q.size : Int) ≤ s.size) = false := by simp; omega
    have h2 : decide (q.size ≤ s.size) = false := by simpa using h
    go_enter Try.func22, Try.ntmps22
    go_wp2
    go_ret
    rw [← hr.out]
    exact ⟨by simp [h], rfl⟩

def LkRel (w : World) (rb ts : Nat) (idx : UInt8 → Nat) (m : Keys) (fp : Nat → Prop) (s : ByteArray) (ign : Bool) (s1 v6 v7 v8 v9 v10 v11 : Value) (wr : World) : Prop :=
  ∃ (n k : Nat) (b : Option (Nat × ByteArray × Nat)) (sk : ByteArray) (nd : Option Nat),
    s1 = .string sk ∧ v6 = .string (bv b) ∧ v7 = .int .i64 (bn b) ∧ v8 = .bool (bf b) ∧ v9 = .int .i64 (bp b) ∧ v10 = ptrOf nd ∧ v11 = .int .i64 n ∧ wr = w.drewN k ∧
    n + sk.size = s.size ∧ sk.data.toList = s.data.toList.drop n ∧ b = bestTo m s.data.toList ign n ∧
    (nd = none → bestOf m s.data.toList ign = b) ∧
    (∀ c, nd = some c → ∃ m' fp', Tri w rb ts idx c m' fp' ∧ (∀ x, fp' x → fp x) ∧ OnRoad m m' s.data.toList n ∧ (n = 0 → c = rb) ∧ (n ≠ 0 → ¬ fp' rb))
def LookPost (w : World) (m : Keys) (s : ByteArray) (ign : Bool) (e : Ending) (w' : World) : Prop :=
  ∃ k : Nat, e = .returned (.tuple #[.string (bv (bestOf m s.data.toList ign)), .int .i64 (bn (bestOf m s.data.toList ign)), .bool (bf (bestOf m s.data.toList ign))]) ∧ w' = w.drewN k
theorem infoNode : ∃ j, Try.prog.info? 71 = some j ∧ j.size ≠ 0 := by
  have h : (Try.prog.info? 71).map (·.size) = some 5 := by kernel_rfl
  obtain ⟨j, h1, h2⟩ := Option.map_eq_some_iff.1 h
  exact ⟨j, h1, by rw [h2]; decide⟩
theorem eql_same (w : World) (a : Addr) : (binOp .eql 68 (.pointer (some a)) (.pointer (some a))).run Try.prog w = .ok (.bool true) w := by
  obtain ⟨j, h1, h2⟩ := infoNode
  exact run_eql_ptr_same w a Try.underlying68 h1
theorem eql_other (w : World) (a b : Nat) (h : a ≠ b) (ha : Plain w a) (hb : Plain w b) : (binOp .eql 68 (.pointer (some ⟨a, 0, none⟩)) (.pointer (some ⟨b, 0, none⟩))).run Try.prog w = .ok (.bool false) w := by
  obtain ⟨j, h1, h2⟩ := infoNode
  obtain ⟨ca, ta, ha⟩ := ha
  obtain ⟨cb, tb, hb⟩ := hb
  exact run_eql_ptr_other w Try.underlying68 h1 h2 (fun e => h (by injection e)) ha hb
/-- the four ways through the test of a node -/
theorem guard_ways (m m' : Keys) (s : List UInt8) (ign : Bool) (n p : Nat) (v : ByteArray) (hr : OnRoad m m' s n) (hs : n ≤ s.length) (hm : m' [] = here p v) :
    (¬ bp (bestTo m s ign n) < p ∧ bestTo m s ign (n + 1) = bestTo m s ign n) ∨
    (bp (bestTo m s ign n) < p ∧ ign = false ∧ bestTo m s ign (n + 1) = some (p, v, n)) ∨
    (bp (bestTo m s ign n) < p ∧ ign = true ∧ n = 0 ∧ bestTo m s ign (n + 1) = bestTo m s ign n) ∨
    (bp (bestTo m s ign n) < p ∧ ign = true ∧ n ≠ 0 ∧ bestTo m s ign (n + 1) = some (p, v, n)) := by
  have hc := road_here hr ign hs
  rw [hm] at hc
  by_cases h1 : bp (bestTo m s ign n) < p
  · cases hi : ign with
    | false =>
      subst hi
      refine .inr (.inl ⟨h1, rfl, ?_⟩)
      rw [bestTo, hc, if_neg (fun h => by cases h.1)]
      exact better_up h1
    | true =>
      subst hi
      by_cases h0 : n = 0
      · refine .inr (.inr (.inl ⟨h1, rfl, h0, ?_⟩))
        rw [bestTo, hc, if_pos ⟨rfl, h0⟩]
        rfl
      · refine .inr (.inr (.inr ⟨h1, rfl, h0, ?_⟩))
        rw [bestTo, hc, if_neg (fun h => h0 h.2)]
        exact better_up h1
  · refine .inl ⟨h1, ?_⟩
    rw [bestTo, hc]
    split
    · rfl
    · exact better_no h1

theorem nil_of_nil {s t : List UInt8} (h : s = []) (hp : t <+: s) : t = [] := by rw [h] at hp; exact List.prefix_nil.1 hp
theorem sk_nil {sk : ByteArray} {r : List UInt8} (h : sk.data.toList = r) (h0 : sk.size = 0) : r = [] := by
  rw [← h]; exact List.eq_nil_of_length_eq_zero (by simpa using h0)
theorem sk_cons {sk : ByteArray} {r : List UInt8} (h : sk.data.toList = r) (h0 : 0 < sk.size) : ∃ q, r = sk[0] :: q := ⟨_, h ▸ cons_of sk h0⟩
theorem no_prefix {s q : List UInt8} (h : Lib.hasPrefix s q = false) : ¬ q <+: s := fun hp => by
  unfold Lib.hasPrefix at h
  rw [List.isPrefixOf_iff_prefix.2 hp] at h
  cases h
theorem yes_prefix {s q : List UInt8} (h : Lib.hasPrefix s q = true) : ∃ r, s = q ++ r := by
  unfold Lib.hasPrefix at h
  obtain ⟨r, hr⟩ := List.isPrefixOf_iff_prefix.1 h
  exact ⟨r, hr.symm⟩
theorem size_prefix {s q : ByteArray} {r : List UInt8} (h : s.data.toList = q.data.toList ++ r) : q.size ≤ s.size := by
  have := congrArg List.length h
  simp at this
  omega
theorem road_skip {m m' : Keys} {s : List UInt8} {S n : Nat} {pr : ByteArray} {r : List UInt8} {k : Nat} (h : OnRoad m m' s n) (ign : Bool) (hd : s.drop n = pr.data.toList ++ r) (hp : 0 < pr.size) (hk : pr.size ≤ k) (hl : s.length = S) (hnk : n + k = S)
    (m2 : ∀ t, t ≠ [] → ¬ pr.data.toList <+: t → m' t = none) : bestTo m s ign (n + pr.size) = bestTo m s ign (n + 1) := by
  have := bestTo_skip m s ign (n + 1) (pr.size - 1) (fun j h1 h2 => by
    rw [road_cand h ign (by omega) (by omega)]
    split
    · rfl
    · have hlen : ((s.drop n).take (j - n)).length = j - n := by rw [List.length_take, List.length_drop]; omega
      refine m2 _ (fun e => ?_) (pre_between ?_)
      · rw [e, List.length_nil] at hlen; omega
      · rw [hlen]; simp; omega)
  rw [show n + 1 + (pr.size - 1) = n + pr.size by omega] at this
  exact this
theorem tab_none {m' : Keys} {idx : UInt8 → Nat} {ts : Nat} {ms : Nat → Keys} {r q : List UInt8} {x : UInt8} (hr : r = x :: q) (m1 : ∀ x k, m' (x :: k) = if idx x < ts then ms (idx x) k else none) (hn : idx x < ts → ∀ k, ms (idx x) k = none) :
    ∀ t, t ≠ [] → t <+: r → m' t = none := fun t ht hp => by
  cases t with
  | nil => exact absurd rfl ht
  | cons y k =>
    rw [hr] at hp
    obtain ⟨rfl, _⟩ := List.cons_prefix_cons.1 hp
    rw [m1]
    split
    · rename_i h; exact hn h k
    · rfl
theorem root_out {n c rb : Nat} {fp' fp'' : Nat → Prop} (h : n = 0 ∨ n ≠ 0) (hc : n = 0 → c = rb) (hcn : n ≠ 0 → ¬ fp' rb) (fs : ∀ x, fp'' x → fp' x) (fd : ¬ fp'' c) : ¬ fp'' rb := by
  rcases h with h | h
  · rw [← hc h]; exact fd
  · exact fun hx => hcn h (fs _ hx)
theorem Tri.ways {w : World} {rb ts : Nat} {idx : UInt8 → Nat} {b : Nat} {m : Keys} {fp : Nat → Prop} (h : Tri w rb ts idx b m fp) :
    (∃ v p, NodeAt w b v p ⟨#[]⟩ (.pointer none) (.slice none 0 0) ∧ m [] = here p v ∧ (∀ k, k ≠ [] → m k = none) ∧ fp b) ∨
    (∃ c v pr p m' fp', NodeAt w b v p pr (.pointer (some ⟨c, 0, none⟩)) (.slice none 0 0) ∧ 0 < pr.size ∧ pr.size < 4611686018427387904 ∧ (∀ x ∈ pr.data.toList, idx x < ts) ∧ Tri w rb ts idx c m' fp' ∧ m [] = here p v ∧ (∀ k, m (pr.data.toList ++ k) = m' k) ∧ (∀ k, k ≠ [] → ¬ pr.data.toList <+: k → m k = none) ∧ fp b ∧ (∀ x, fp' x → fp x) ∧ ¬ fp' b) ∨
    (∃ (tb : Nat) (v : ByteArray) (p : Nat) (kid : Nat → Option Nat) (ms : Nat → Keys) (fps : Nat → Nat → Prop), NodeAt w b v p ⟨#[]⟩ (.pointer none) (.slice (some ⟨tb, 0, none⟩) ts ts) ∧ (∀ i, i < ts → w.cell? ⟨tb, i, none⟩ = some (ptrOf (kid i))) ∧ (∀ o, w.frozen? ⟨tb, o, none⟩ = false) ∧
      (∀ i c, i < ts → kid i = some c → Tri w rb ts idx c (ms i) (fps i)) ∧ (∀ i, i < ts → kid i = none → (∀ k, ms i k = none) ∧ ∀ x, ¬ fps i x) ∧ m [] = here p v ∧ (∀ x k, m (x :: k) = if idx x < ts then ms (idx x) k else none) ∧ fp b ∧ fp tb ∧ (∀ i x, i < ts → fps i x → fp x) ∧ ∀ i, i < ts → ¬ fps i b ∧ ¬ fps i tb) := by
  cases h with
  | leaf h m0 m1 f => exact .inl ⟨_, _, h, m0, m1, f⟩
  | pre h hp hl hu ht m0 m1 m2 f fs fd => exact .inr (.inl ⟨_, _, _, _, _, _, h, hp, hl, hu, ht, m0, m1, m2, f, fs, fd⟩)
  | tab h hc hz ht hn m0 m1 f ft fs fd fdd hbt htr => exact .inr (.inr ⟨_, _, _, _, _, _, h, hc, hz, ht, hn, m0, m1, f, ft, fs, fd⟩)

set_option maxHeartbeats 32000000 in
set_option maxRecDepth 100000 in
theorem lookup_any (rb ts : Nat) (idx : UInt8 → Nat) (m : Keys) (fp : Nat → Prop) (s : ByteArray) (ign : Bool) (w : World) (hT : Tri w rb ts idx rb m fp) (hR : RepAt w rb ts idx) (hts : ∀ x, idx x ≤ ts) (hP : ∀ x, fp x → Plain w x) (hs : s.size < 4611686018427387904) :
    Calls Try.prog 53 #[.pointer (some ⟨rb, 0, none⟩), .string s, .bool ign] w (LookPost w m s ign) := by
  have HR := Lib.hid hR
  have HP := Lib.hid hP
  have HTS := Lib.hid hts
  have HT := Lib.hid hT
  have hrbf : fp rb := hT.own
  have hle := hR.le
  clear hR hP hts hT
  go_enter Try.func53, Try.ntmps53
  go_wp2_with fail
  go_loopw [1, 6, 7, 8, 9, 10, 11] (LkRel w rb ts idx m fp s ign) (fun s1 _ _ _ _ v10 _ _ => (match s1 with | .string x => 2 * x.size | _ => 0) + (match v10 with | .pointer none => 0 | _ => 1))
  case atStart => exact ⟨0, 0, none, s, some rb, rfl, rfl, rfl, rfl, rfl, rfl, rfl, rfl, by omega, by simp, rfl, (fun h => by cases h), fun c hc => by
    obtain rfl := Option.some.inj hc
    exact ⟨m, fp, HT.out, fun _ h => h, fun t _ => by simp, fun _ => rfl, fun h => absurd rfl h⟩⟩
  case round =>
    obtain ⟨n, k, b, sk, nd, rfl, rfl, rfl, rfl, rfl, rfl, rfl, rfl, hns, hsk, hb, hnil, hnode⟩ := hrel
    cases nd with
    | none =>
      have HB := Lib.hid (hnil rfl)
      clear hnil hnode hb hsk
      simp only [ptrOf, Option.map_none]
      go_wp2_with fail
      go_ret3
      exact ⟨k, by rw [HB.out]; rfl, rfl⟩
    | some c =>
      obtain ⟨m', fp', hT, hfs, hroad, hc0, hcn⟩ := hnode c rfl
      clear hnil hnode
      simp only [ptrOf, Option.map_some]
      have hnl : n ≤ s.data.toList.length := by simp; omega
      have hcp : Plain w c := HP.out c (hfs c hT.own)
      have hrp : Plain w rb := HP.out rb hrbf
      have HN := Lib.hid hns
      have hskb : sk.size < 4611686018427387904 := by omega
      have hnb : n + sk.size < 4611686018427387904 := by omega
      have q91 := neqNil
      have eqs := eql_same
      have hcne : n ≠ 0 → c ≠ rb := fun h e => hcn h (e ▸ hT.own)
      have HCN := Lib.hid hcne
      have HSK := Lib.hid hsk
      clear hcne hsk
      have hc0' : n = 0 ∨ n ≠ 0 := by omega
      -- WAYS
      rcases hT.ways with ⟨v, p, h, m0, m1, f⟩ | ⟨c', v, pr, p, m'', fp'', h, hp, hl, hu, ht, m0, m1, m2, f, fs, fd⟩ | ⟨tb, v, p, kid, ms, fps, h, hc, hz, ht, hn, m0, m1, f, ft, fs, fd⟩
      · have G := guard_ways m m' s.data.toList ign n p v hroad hnl m0
        rw [← hb] at G
        have h0 := h.c0
        have h1 := h.c1
        have h2 := h.c2
        have h3 := h.c3
        have h4 := h.c4
        have HB := Lib.hid hb
        have HM := Lib.hid (And.intro m0 m1)
        clear hb m0 m1 hns
        by_cases hse : sk.size = 0
        · have he : sk.toList.isEmpty = true := by rw [empty_of2]; simpa using hse
          have E := Lib.hid (road_stop hroad ign hnl (fun t ht hp => absurd (nil_of_nil (sk_nil HSK.out hse) hp) ht))
          clear hse
          rcases G with ⟨g1, g2⟩ | ⟨g1, rfl, g2⟩ | ⟨g1, rfl, g0, g2⟩ | ⟨g1, rfl, g0, g2⟩
          · have HB2 := Lib.hid g2
            clear g2
            go_wp2_with fail
            go_ret3
            exact ⟨_, by rw [E.out, HB2.out]; rfl, rfl⟩
          · have HB2 := Lib.hid g2
            clear g2
            go_wp2_with fail
            go_ret3
            exact ⟨_, by rw [E.out, HB2.out]; rfl, rfl⟩
          · have HB2 := Lib.hid g2
            obtain rfl := hc0 g0
            have H00 := Lib.hid g0
            clear g2 g0 hc0
            go_wp2_with fail
            go_ret3
            exact ⟨_, by rw [E.out, HB2.out]; rfl, rfl⟩
          · have HB2 := Lib.hid g2
            have eqo2 : ∀ k, (binOp .eql 68 (.pointer (some ⟨c, 0, none⟩)) (.pointer (some ⟨rb, 0, none⟩))).run Try.prog (w.drewN k) = .ok (.bool false) (w.drewN k) := fun k => eql_other _ c rb (HCN.out g0) hcp hrp
            have H00 := Lib.hid g0
            clear g2 g0 hc0 eqs
            go_wp2_with fail
            go_ret3
            exact ⟨_, by rw [E.out, HB2.out]; rfl, rfl⟩
        have he : sk.toList.isEmpty = false := by rw [empty_of2]; exact decide_eq_false hse
        have hs0 : 0 < sk.size := by omega
        clear hse
        have E := Lib.hid (road_stop hroad ign hnl (fun t ht _ => HM.out.2 t ht))
        rcases G with ⟨g1, g2⟩ | ⟨g1, rfl, g2⟩ | ⟨g1, rfl, g0, g2⟩ | ⟨g1, rfl, g0, g2⟩
        · have HB2 := Lib.hid g2
          clear g2
          go_wp2_with fail
          go_ret3
          exact ⟨_, by rw [E.out, HB2.out]; rfl, rfl⟩
        · have HB2 := Lib.hid g2
          clear g2
          go_wp2_with fail
          go_ret3
          exact ⟨_, by rw [E.out, HB2.out]; rfl, rfl⟩
        · have HB2 := Lib.hid g2
          obtain rfl := hc0 g0
          have H00 := Lib.hid g0
          clear g2 g0 hc0
          go_wp2_with fail
          go_ret3
          exact ⟨_, by rw [E.out, HB2.out]; rfl, rfl⟩
        · have HB2 := Lib.hid g2
          have eqo2 : ∀ k, (binOp .eql 68 (.pointer (some ⟨c, 0, none⟩)) (.pointer (some ⟨rb, 0, none⟩))).run Try.prog (w.drewN k) = .ok (.bool false) (w.drewN k) := fun k => eql_other _ c rb (HCN.out g0) hcp hrp
          have H00 := Lib.hid g0
          clear g2 g0 hc0 eqs
          go_wp2_with fail
          go_ret3
          exact ⟨_, by rw [E.out, HB2.out]; rfl, rfl⟩
      · have G := guard_ways m m' s.data.toList ign n p v hroad hnl m0
        rw [← hb] at G
        have h0 := h.c0
        have h1 := h.c1
        have h2 := h.c2
        have h3 := h.c3
        have h4 := h.c4
        have HB := Lib.hid hb
        have HM := Lib.hid (And.intro m0 (And.intro m1 m2))
        clear hb m0 m1 m2 hns
        by_cases hse : sk.size = 0
        · have he : sk.toList.isEmpty = true := by rw [empty_of2]; simpa using hse
          have E := Lib.hid (road_stop hroad ign hnl (fun t ht hp => absurd (nil_of_nil (sk_nil HSK.out hse) hp) ht))
          clear hse
          rcases G with ⟨g1, g2⟩ | ⟨g1, rfl, g2⟩ | ⟨g1, rfl, g0, g2⟩ | ⟨g1, rfl, g0, g2⟩
          · have HB2 := Lib.hid g2
            clear g2
            go_wp2_with fail
            go_ret3
            exact ⟨_, by rw [E.out, HB2.out]; rfl, rfl⟩
          · have HB2 := Lib.hid g2
            clear g2
            go_wp2_with fail
            go_ret3
            exact ⟨_, by rw [E.out, HB2.out]; rfl, rfl⟩
          · have HB2 := Lib.hid g2
            obtain rfl := hc0 g0
            have H00 := Lib.hid g0
            clear g2 g0 hc0
            go_wp2_with fail
            go_ret3
            exact ⟨_, by rw [E.out, HB2.out]; rfl, rfl⟩
          · have HB2 := Lib.hid g2
            have eqo2 : ∀ k, (binOp .eql 68 (.pointer (some ⟨c, 0, none⟩)) (.pointer (some ⟨rb, 0, none⟩))).run Try.prog (w.drewN k) = .ok (.bool false) (w.drewN k) := fun k => eql_other _ c rb (HCN.out g0) hcp hrp
            have H00 := Lib.hid g0
            clear g2 g0 hc0 eqs
            go_wp2_with fail
            go_ret3
            exact ⟨_, by rw [E.out, HB2.out]; rfl, rfl⟩
        have he : sk.toList.isEmpty = false := by rw [empty_of2]; exact decide_eq_false hse
        have hs0 : 0 < sk.size := by omega
        clear hse
        have hpe : pr.toList.isEmpty = false := by rw [empty_of2]; exact decide_eq_false (by omega)
        cases hpf : Lib.hasPrefix sk.data.toList pr.data.toList with
        | false =>
          have HPF := Lib.hid hpf
          have E := Lib.hid (road_stop hroad ign hnl (fun t ht hpt => HM.out.2.2 t ht (fun hh => no_prefix hpf (HSK.out ▸ hh.trans hpt))))
          clear hpf
          rcases G with ⟨g1, g2⟩ | ⟨g1, rfl, g2⟩ | ⟨g1, rfl, g0, g2⟩ | ⟨g1, rfl, g0, g2⟩
          · have HB2 := Lib.hid g2
            clear g2
            go_wp2_with (go_at_call 22; refine (hasPre sk pr hskb hl _).mono ?_; rintro e w2 ⟨rfl, rfl⟩; rw [HPF.out])
            go_ret3
            exact ⟨_, by rw [E.out, HB2.out]; rfl, rfl⟩
          · have HB2 := Lib.hid g2
            clear g2
            go_wp2_with (go_at_call 22; refine (hasPre sk pr hskb hl _).mono ?_; rintro e w2 ⟨rfl, rfl⟩; rw [HPF.out])
            go_ret3
            exact ⟨_, by rw [E.out, HB2.out]; rfl, rfl⟩
          · have HB2 := Lib.hid g2
            obtain rfl := hc0 g0
            have H00 := Lib.hid g0
            clear g2 g0 hc0
            go_wp2_with (go_at_call 22; refine (hasPre sk pr hskb hl _).mono ?_; rintro e w2 ⟨rfl, rfl⟩; rw [HPF.out])
            go_ret3
            exact ⟨_, by rw [E.out, HB2.out]; rfl, rfl⟩
          · have HB2 := Lib.hid g2
            have eqo2 : ∀ k, (binOp .eql 68 (.pointer (some ⟨c, 0, none⟩)) (.pointer (some ⟨rb, 0, none⟩))).run Try.prog (w.drewN k) = .ok (.bool false) (w.drewN k) := fun k => eql_other _ c rb (HCN.out g0) hcp hrp
            have H00 := Lib.hid g0
            clear g2 g0 hc0 eqs
            go_wp2_with (go_at_call 22; refine (hasPre sk pr hskb hl _).mono ?_; rintro e w2 ⟨rfl, rfl⟩; rw [HPF.out])
            go_ret3
            exact ⟨_, by rw [E.out, HB2.out]; rfl, rfl⟩
        | true =>
          have HPF := Lib.hid hpf
          obtain ⟨r, hr⟩ := yes_prefix hpf
          have hps : pr.size ≤ sk.size := size_prefix hr
          have i1 : (pr.size : Int) ≤ sk.size := by omega
          have hskip := Lib.hid (road_skip hroad ign (HSK.out ▸ hr) hp hps (show s.data.toList.length = s.size by simp) HN.out HM.out.2.2)
          have hroad2 := Lib.hid (road_pre hroad (HSK.out ▸ hr) HM.out.2.1)
          have HR2 := Lib.hid hr
          have hro := Lib.hid (root_out hc0' hc0 hcn fs fd)
          clear hpf hr
          rcases G with ⟨g1, g2⟩ | ⟨g1, rfl, g2⟩ | ⟨g1, rfl, g0, g2⟩ | ⟨g1, rfl, g0, g2⟩
          · have HB2 := Lib.hid g2
            clear g2
            go_wp2_with (go_at_call 22; refine (hasPre sk pr hskb hl _).mono ?_; rintro e w2 ⟨rfl, rfl⟩; rw [HPF.out])
            go_roundw
            case rel =>
              exact ⟨n + pr.size, _, b, sk.extract pr.size sk.size, some c', rfl, rfl, rfl, rfl, rfl, rfl, by go_num, rfl, by have := HN.out; simp; omega, by rw [Lib.extract_to_end, HSK.out, List.drop_drop], by rw [hskip.out, HB2.out], (fun h => by cases h), fun c2 hc2 => by obtain rfl := Option.some.inj hc2; exact ⟨m'', fp'', ht, fun x hx => hfs x (fs x hx), by simpa using hroad2.out, fun h => by omega, fun _ => hro.out⟩⟩
            case measure => simp; omega
          · have HB2 := Lib.hid g2
            clear g2
            go_wp2_with (go_at_call 22; refine (hasPre sk pr hskb hl _).mono ?_; rintro e w2 ⟨rfl, rfl⟩; rw [HPF.out])
            go_roundw
            case rel =>
              exact ⟨n + pr.size, _, (some (p, v, n)), sk.extract pr.size sk.size, some c', rfl, rfl, rfl, rfl, rfl, rfl, by go_num, rfl, by have := HN.out; simp; omega, by rw [Lib.extract_to_end, HSK.out, List.drop_drop], by rw [hskip.out, HB2.out], (fun h => by cases h), fun c2 hc2 => by obtain rfl := Option.some.inj hc2; exact ⟨m'', fp'', ht, fun x hx => hfs x (fs x hx), by simpa using hroad2.out, fun h => by omega, fun _ => hro.out⟩⟩
            case measure => simp; omega
          · have HB2 := Lib.hid g2
            obtain rfl := hc0 g0
            have H00 := Lib.hid g0
            clear g2 g0 hc0
            go_wp2_with (go_at_call 22; refine (hasPre sk pr hskb hl _).mono ?_; rintro e w2 ⟨rfl, rfl⟩; rw [HPF.out])
            go_roundw
            case rel =>
              exact ⟨n + pr.size, _, b, sk.extract pr.size sk.size, some c', rfl, rfl, rfl, rfl, rfl, rfl, by go_num, rfl, by have := HN.out; simp; omega, by rw [Lib.extract_to_end, HSK.out, List.drop_drop], by rw [hskip.out, HB2.out], (fun h => by cases h), fun c2 hc2 => by obtain rfl := Option.some.inj hc2; exact ⟨m'', fp'', ht, fun x hx => hfs x (fs x hx), by simpa using hroad2.out, fun h => by omega, fun _ => hro.out⟩⟩
            case measure => simp; omega
          · have HB2 := Lib.hid g2
            have eqo2 : ∀ k, (binOp .eql 68 (.pointer (some ⟨c, 0, none⟩)) (.pointer (some ⟨rb, 0, none⟩))).run Try.prog (w.drewN k) = .ok (.bool false) (w.drewN k) := fun k => eql_other _ c rb (HCN.out g0) hcp hrp
            have H00 := Lib.hid g0
            clear g2 g0 hc0 eqs
            go_wp2_with (go_at_call 22; refine (hasPre sk pr hskb hl _).mono ?_; rintro e w2 ⟨rfl, rfl⟩; rw [HPF.out])
            go_roundw
            case rel =>
              exact ⟨n + pr.size, _, (some (p, v, n)), sk.extract pr.size sk.size, some c', rfl, rfl, rfl, rfl, rfl, rfl, by go_num, rfl, by have := HN.out; simp; omega, by rw [Lib.extract_to_end, HSK.out, List.drop_drop], by rw [hskip.out, HB2.out], (fun h => by cases h), fun c2 hc2 => by obtain rfl := Option.some.inj hc2; exact ⟨m'', fp'', ht, fun x hx => hfs x (fs x hx), by simpa using hroad2.out, fun h => by omega, fun _ => hro.out⟩⟩
            case measure => simp; omega
      · have G := guard_ways m m' s.data.toList ign n p v hroad hnl m0
        rw [← hb] at G
        have h0 := h.c0
        have h1 := h.c1
        have h2 := h.c2
        have h3 := h.c3
        have h4 := h.c4
        have HB := Lib.hid hb
        have HM := Lib.hid (And.intro m0 (And.intro m1 (And.intro hn hc)))
        clear hb m0 m1 hn hc hns
        by_cases hse : sk.size = 0
        · have he : sk.toList.isEmpty = true := by rw [empty_of2]; simpa using hse
          have E := Lib.hid (road_stop hroad ign hnl (fun t ht hp => absurd (nil_of_nil (sk_nil HSK.out hse) hp) ht))
          clear hse
          rcases G with ⟨g1, g2⟩ | ⟨g1, rfl, g2⟩ | ⟨g1, rfl, g0, g2⟩ | ⟨g1, rfl, g0, g2⟩
          · have HB2 := Lib.hid g2
            clear g2
            go_wp2_with fail
            go_ret3
            exact ⟨_, by rw [E.out, HB2.out]; rfl, rfl⟩
          · have HB2 := Lib.hid g2
            clear g2
            go_wp2_with fail
            go_ret3
            exact ⟨_, by rw [E.out, HB2.out]; rfl, rfl⟩
          · have HB2 := Lib.hid g2
            obtain rfl := hc0 g0
            have H00 := Lib.hid g0
            clear g2 g0 hc0
            go_wp2_with fail
            go_ret3
            exact ⟨_, by rw [E.out, HB2.out]; rfl, rfl⟩
          · have HB2 := Lib.hid g2
            have eqo2 : ∀ k, (binOp .eql 68 (.pointer (some ⟨c, 0, none⟩)) (.pointer (some ⟨rb, 0, none⟩))).run Try.prog (w.drewN k) = .ok (.bool false) (w.drewN k) := fun k => eql_other _ c rb (HCN.out g0) hcp hrp
            have H00 := Lib.hid g0
            clear g2 g0 hc0 eqs
            go_wp2_with fail
            go_ret3
            exact ⟨_, by rw [E.out, HB2.out]; rfl, rfl⟩
        have he : sk.toList.isEmpty = false := by rw [empty_of2]; exact decide_eq_false hse
        have hs0 : 0 < sk.size := by omega
        clear hse
        obtain ⟨r, hr⟩ := sk_cons HSK.out hs0
        have hmap := HR.out.map sk[0]
        have hsz := HR.out.size
        have i8 : (sk[0].toNat : Int) < 256 := by have := sk[0].toNat_lt; omega
        have i0 : (0 : Int) < sk.size := by omega
        have i1 : (1 : Int) ≤ sk.size := by omega
        by_cases hix : idx sk[0] < ts
        · have z1 : ((idx sk[0] : Int) == ts) = false := beq_eq_false_iff_ne.2 (by omega)
          have i2 : (idx sk[0] : Int) < ts := by omega
          have hkc := HM.out.2.2.2 _ hix
          cases hkid : kid (idx sk[0]) with
          | none =>
            rw [hkid] at hkc
            simp only [ptrOf, Option.map_none] at hkc
            have E := Lib.hid (road_stop hroad ign hnl (tab_none hr HM.out.2.1 (fun _ k => (HM.out.2.2.1 _ hix hkid).1 k)))
            have HR2 := Lib.hid hr
            clear hr hkid
            rcases G with ⟨g1, g2⟩ | ⟨g1, rfl, g2⟩ | ⟨g1, rfl, g0, g2⟩ | ⟨g1, rfl, g0, g2⟩
            · have HB2 := Lib.hid g2
              clear g2
              go_wp2_with fail
              go_quiet (fail)
              go_wp2_with fail
              go_roundw
              case rel =>
                exact ⟨n + 1, _, b, sk.extract 1 sk.size, none, rfl, rfl, rfl, rfl, rfl, rfl, by go_num, rfl, by have := HN.out; simp; omega, by rw [Lib.extract_to_end, HSK.out, List.drop_drop], HB2.out.symm, fun _ => by rw [E.out, HB2.out], fun c2 hc2 => by cases hc2⟩
              case measure => simp; omega
            · have HB2 := Lib.hid g2
              clear g2
              go_wp2_with fail
              go_quiet (fail)
              go_wp2_with fail
              go_roundw
              case rel =>
                exact ⟨n + 1, _, (some (p, v, n)), sk.extract 1 sk.size, none, rfl, rfl, rfl, rfl, rfl, rfl, by go_num, rfl, by have := HN.out; simp; omega, by rw [Lib.extract_to_end, HSK.out, List.drop_drop], HB2.out.symm, fun _ => by rw [E.out, HB2.out], fun c2 hc2 => by cases hc2⟩
              case measure => simp; omega
            · have HB2 := Lib.hid g2
              obtain rfl := hc0 g0
              have H00 := Lib.hid g0
              clear g2 g0 hc0
              go_wp2_with fail
              go_quiet (fail)
              go_wp2_with fail
              go_roundw
              case rel =>
                exact ⟨n + 1, _, b, sk.extract 1 sk.size, none, rfl, rfl, rfl, rfl, rfl, rfl, by go_num, rfl, by have := HN.out; simp; omega, by rw [Lib.extract_to_end, HSK.out, List.drop_drop], HB2.out.symm, fun _ => by rw [E.out, HB2.out], fun c2 hc2 => by cases hc2⟩
              case measure => simp; omega
            · have HB2 := Lib.hid g2
              have eqo2 : ∀ k, (binOp .eql 68 (.pointer (some ⟨c, 0, none⟩)) (.pointer (some ⟨rb, 0, none⟩))).run Try.prog (w.drewN k) = .ok (.bool false) (w.drewN k) := fun k => eql_other _ c rb (HCN.out g0) hcp hrp
              have H00 := Lib.hid g0
              clear g2 g0 hc0 eqs
              go_wp2_with fail
              go_quiet (fail)
              go_wp2_with fail
              go_roundw
              case rel =>
                exact ⟨n + 1, _, (some (p, v, n)), sk.extract 1 sk.size, none, rfl, rfl, rfl, rfl, rfl, rfl, by go_num, rfl, by have := HN.out; simp; omega, by rw [Lib.extract_to_end, HSK.out, List.drop_drop], HB2.out.symm, fun _ => by rw [E.out, HB2.out], fun c2 hc2 => by cases hc2⟩
              case measure => simp; omega
          | some c' =>
            rw [hkid] at hkc
            simp only [ptrOf, Option.map_some] at hkc
            have hroad2 := Lib.hid (road_byte hroad hr (fun k => by rw [HM.out.2.1, if_pos hix] : ∀ k, m' (sk[0] :: k) = ms (idx sk[0]) k))
            have ht' := Lib.hid (ht _ c' hix hkid)
            have hro := Lib.hid (root_out hc0' hc0 hcn (fun x hx => fs _ x hix hx) (fd _ hix).1)
            clear hr hkid
            rcases G with ⟨g1, g2⟩ | ⟨g1, rfl, g2⟩ | ⟨g1, rfl, g0, g2⟩ | ⟨g1, rfl, g0, g2⟩
            · have HB2 := Lib.hid g2
              clear g2
              go_wp2_with fail
              go_quiet (fail)
              go_wp2_with fail
              go_roundw
              case rel =>
                exact ⟨n + 1, _, b, sk.extract 1 sk.size, some c', rfl, rfl, rfl, rfl, rfl, rfl, by go_num, rfl, by have := HN.out; simp; omega, by rw [Lib.extract_to_end, HSK.out, List.drop_drop], HB2.out.symm, (fun h => by cases h), fun c2 hc2 => by obtain rfl := Option.some.inj hc2; exact ⟨_, _, ht'.out, fun x hx => hfs x (fs _ x hix hx), hroad2.out, fun h => by omega, fun _ => hro.out⟩⟩
              case measure => simp; omega
            · have HB2 := Lib.hid g2
              clear g2
              go_wp2_with fail
              go_quiet (fail)
              go_wp2_with fail
              go_roundw
              case rel =>
                exact ⟨n + 1, _, (some (p, v, n)), sk.extract 1 sk.size, some c', rfl, rfl, rfl, rfl, rfl, rfl, by go_num, rfl, by have := HN.out; simp; omega, by rw [Lib.extract_to_end, HSK.out, List.drop_drop], HB2.out.symm, (fun h => by cases h), fun c2 hc2 => by obtain rfl := Option.some.inj hc2; exact ⟨_, _, ht'.out, fun x hx => hfs x (fs _ x hix hx), hroad2.out, fun h => by omega, fun _ => hro.out⟩⟩
              case measure => simp; omega
            · have HB2 := Lib.hid g2
              obtain rfl := hc0 g0
              have H00 := Lib.hid g0
              clear g2 g0 hc0
              go_wp2_with fail
              go_quiet (fail)
              go_wp2_with fail
              go_roundw
              case rel =>
                exact ⟨n + 1, _, b, sk.extract 1 sk.size, some c', rfl, rfl, rfl, rfl, rfl, rfl, by go_num, rfl, by have := HN.out; simp; omega, by rw [Lib.extract_to_end, HSK.out, List.drop_drop], HB2.out.symm, (fun h => by cases h), fun c2 hc2 => by obtain rfl := Option.some.inj hc2; exact ⟨_, _, ht'.out, fun x hx => hfs x (fs _ x hix hx), hroad2.out, fun h => by omega, fun _ => hro.out⟩⟩
              case measure => simp; omega
            · have HB2 := Lib.hid g2
              have eqo2 : ∀ k, (binOp .eql 68 (.pointer (some ⟨c, 0, none⟩)) (.pointer (some ⟨rb, 0, none⟩))).run Try.prog (w.drewN k) = .ok (.bool false) (w.drewN k) := fun k => eql_other _ c rb (HCN.out g0) hcp hrp
              have H00 := Lib.hid g0
              clear g2 g0 hc0 eqs
              go_wp2_with fail
              go_quiet (fail)
              go_wp2_with fail
              go_roundw
              case rel =>
                exact ⟨n + 1, _, (some (p, v, n)), sk.extract 1 sk.size, some c', rfl, rfl, rfl, rfl, rfl, rfl, by go_num, rfl, by have := HN.out; simp; omega, by rw [Lib.extract_to_end, HSK.out, List.drop_drop], HB2.out.symm, (fun h => by cases h), fun c2 hc2 => by obtain rfl := Option.some.inj hc2; exact ⟨_, _, ht'.out, fun x hx => hfs x (fs _ x hix hx), hroad2.out, fun h => by omega, fun _ => hro.out⟩⟩
              case measure => simp; omega
        · have z1 : ((idx sk[0] : Int) == ts) = true := beq_iff_eq.2 (by have := HTS.out sk[0]; omega)
          have i3 : idx sk[0] ≤ 255 := HR.out.room _
          have i4 : ts ≤ idx sk[0] := by omega
          have i5 : idx sk[0] ≤ ts := HTS.out _
          have z2 : (idx sk[0] == ts) = true := beq_iff_eq.2 (by have := HTS.out sk[0]; omega)
          have z3 : decide (idx sk[0] = ts) = true := decide_eq_true (by have := HTS.out sk[0]; omega)
          have E := Lib.hid (road_stop hroad ign hnl (tab_none hr HM.out.2.1 (fun h => absurd h hix)))
          clear hr
          rcases G with ⟨g1, g2⟩ | ⟨g1, rfl, g2⟩ | ⟨g1, rfl, g0, g2⟩ | ⟨g1, rfl, g0, g2⟩
          · have HB2 := Lib.hid g2
            clear g2
            go_wp2_with fail
            go_quiet (fail)
            go_wp2_with fail
            go_ret3
            exact ⟨_, by rw [E.out, HB2.out]; rfl, rfl⟩
          · have HB2 := Lib.hid g2
            clear g2
            go_wp2_with fail
            go_quiet (fail)
            go_wp2_with fail
            go_ret3
            exact ⟨_, by rw [E.out, HB2.out]; rfl, rfl⟩
          · have HB2 := Lib.hid g2
            obtain rfl := hc0 g0
            have H00 := Lib.hid g0
            clear g2 g0 hc0
            go_wp2_with fail
            go_quiet (fail)
            go_wp2_with fail
            go_ret3
            exact ⟨_, by rw [E.out, HB2.out]; rfl, rfl⟩
          · have HB2 := Lib.hid g2
            have eqo2 : ∀ k, (binOp .eql 68 (.pointer (some ⟨c, 0, none⟩)) (.pointer (some ⟨rb, 0, none⟩))).run Try.prog (w.drewN k) = .ok (.bool false) (w.drewN k) := fun k => eql_other _ c rb (HCN.out g0) hcp hrp
            have H00 := Lib.hid g0
            clear g2 g0 hc0 eqs
            go_wp2_with fail
            go_quiet (fail)
            go_wp2_with fail
            go_ret3
            exact ⟨_, by rw [E.out, HB2.out]; rfl, rfl⟩
end Go.Proofs.Ytlhlehmmaoadgaa
