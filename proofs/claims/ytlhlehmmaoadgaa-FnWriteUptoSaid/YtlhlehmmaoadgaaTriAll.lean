/- trieNode.add, whole: whatever the trie, a key more. -/
import Derived.Test.YtlhlehmmaoadgaaTriZero
namespace Go.Proofs.Ytlhlehmmaoadgaa
open Go.RowKit Go.Lib
set_option linter.unusedVariables false

theorem add_pre (rb ts : Nat) (idx : UInt8 → Nat) (b c p q : Nat) (v val pr key : ByteArray) (w : World) (m m' : Keys) (fp fp' : Nat → Prop)
    (h : NodeAt w b v p pr (.pointer (some ⟨c, 0, none⟩)) (.slice none 0 0)) (hp : 0 < pr.size) (hl : pr.size < 4611686018427387904) (hup : ∀ x ∈ pr.data.toList, idx x < ts) (ht : Tri w rb ts idx c m' fp')
    (m0 : m [] = here p v) (m1 : ∀ k, m (pr.data.toList ++ k) = m' k) (m2 : ∀ k, k ≠ [] → ¬ pr.data.toList <+: k → m k = none) (f : fp b) (fs : ∀ x, fp' x → fp x) (fd : ¬ fp' b)
    (hlt : ∀ x, fp x → x < w.heap.size) (hR : RepAt w rb ts idx) (hk : 0 < key.size) (hks : key.size < 4611686018427387904) (hy : idx key[0] < ts)
    (hsub : ∀ L, 0 < L → AddOk rb ts idx (key.extract L key.size) val q) :
    Calls Try.prog 21 #[.pointer (some ⟨b, 0, none⟩), .string key, .string val, .int .i64 q, .pointer (some ⟨rb, 0, none⟩)] w fun e w' => e = .returned (.tuple #[]) ∧ AddPost w rb ts idx b m fp key.data.toList q val w' := by
  obtain ⟨L, hL⟩ := lcp_ex pr key
  by_cases hL0 : L = 0
  · subst hL0
    refine add_pre_zero rb ts idx b c p q v val pr key w m m' fp fp' h hp hl hup ht m0 m1 m2 f fs fd hlt hR hk hks ?_ hy (hsub 1 (by omega))
    rcases hL.stop with e | e | ⟨_, _, e⟩
    · omega
    · omega
    · exact e
  · by_cases hLp : L = pr.size
    · subst hLp
      exact add_pre_full rb ts idx b c p q v val pr key w m m' fp fp' h hp hl hup ht m0 m1 m2 f fs fd hlt hR hk hks hL (hsub _ (by omega))
    · exact add_pre_mid rb ts idx b c p q L v val pr key w m m' fp fp' h hp hl hup ht m0 m1 m2 f fs fd hlt hR hk hks hL (by omega) (by have := hL.la; omega) (hsub L (by omega))
theorem add_tab (rb ts : Nat) (idx : UInt8 → Nat) (b tb p q : Nat) (v val key : ByteArray) (w : World) (m : Keys) (kid : Nat → Option Nat) (ms : Nat → Keys) (fp : Nat → Prop) (fps : Nat → Nat → Prop)
    (h : NodeAt w b v p ⟨#[]⟩ (.pointer none) (.slice (some ⟨tb, 0, none⟩) ts ts)) (hc : ∀ i, i < ts → w.cell? ⟨tb, i, none⟩ = some (ptrOf (kid i))) (hz : ∀ o, w.frozen? ⟨tb, o, none⟩ = false)
    (ht : ∀ i c, i < ts → kid i = some c → Tri w rb ts idx c (ms i) (fps i)) (hn : ∀ i, i < ts → kid i = none → (∀ k, ms i k = none) ∧ ∀ x, ¬ fps i x)
    (m0 : m [] = here p v) (m1 : ∀ x k, m (x :: k) = if idx x < ts then ms (idx x) k else none)
    (f : fp b) (ft : fp tb) (fs : ∀ i x, i < ts → fps i x → fp x) (fd : ∀ i, i < ts → ¬ fps i b ∧ ¬ fps i tb) (fdd : ∀ i j x, i < ts → j < ts → i ≠ j → fps i x → ¬ fps j x) (hbt : b ≠ tb) (htr : tb ≠ rb)
    (hlt : ∀ x, fp x → x < w.heap.size) (hR : RepAt w rb ts idx) (hk : 0 < key.size) (hks : key.size < 4611686018427387904) (hy : idx key[0] < ts)
    (hsub : ∀ L, 0 < L → AddOk rb ts idx (key.extract L key.size) val q) :
    Calls Try.prog 21 #[.pointer (some ⟨b, 0, none⟩), .string key, .string val, .int .i64 q, .pointer (some ⟨rb, 0, none⟩)] w fun e w' => e = .returned (.tuple #[]) ∧ AddPost w rb ts idx b m fp key.data.toList q val w' := by
  cases hkid : kid (idx key[0]) with
  | none => exact add_tab_nil rb ts idx b tb p q v val key w m kid ms fp fps h hc hz ht hn m0 m1 f ft fs fd fdd hbt htr hlt hR hk hks hy hkid (hsub 1 (by omega))
  | some c => exact add_tab_kid rb ts idx b tb p q c v val key w m kid ms fp fps h hc hz ht hn m0 m1 f ft fs fd fdd hbt htr hlt hR hk hks hy hkid (hsub 1 (by omega))
theorem add_any (rb ts : Nat) (idx : UInt8 → Nat) (val : ByteArray) (q : Nat) (hq : q ≠ 0) : ∀ (n : Nat) (key : ByteArray), key.size ≤ n → key.size < 4611686018427387904 → (∀ x ∈ key.data.toList, idx x < ts) → AddOk rb ts idx key val q
  | 0, key, hn, _, _ => by
    have e : key = ⟨#[]⟩ := by
      apply ByteArray.ext
      apply Array.eq_empty_of_size_eq_zero
      have : key.data.size = key.size := rfl
      omega
    rw [e]
    exact add_nil rb ts idx val q hq
  | n + 1, key, hn, hks, hu => by
    by_cases h0 : key.size = 0
    · exact add_any rb ts idx val q hq n key (by omega) hks hu
    have hk : 0 < key.size := by omega
    have hsub : ∀ L, 0 < L → AddOk rb ts idx (key.extract L key.size) val q := fun L hL => add_any rb ts idx val q hq n _ (by simp; omega) (by simp; omega) (fun x hx => hu x (by
      rw [Lib.extract_to_end] at hx
      exact List.mem_of_mem_drop hx))
    have hy : idx key[0] < ts := hu _ (get0_mem key hk)
    intro w b m fp hT hlt hR
    cases hT with
    | leaf h m0 m1 f => exact add_leaf rb ts idx b _ q _ val key w m fp h m0 m1 f hlt hR hk hks hu hq
    | pre h hp hl hup ht m0 m1 m2 f fs fd => exact add_pre rb ts idx b _ _ q _ val _ key w m _ fp _ h hp hl hup ht m0 m1 m2 f fs fd hlt hR hk hks hy hsub
    | tab h hc hz ht hn m0 m1 f ft fs fd fdd hbt htr => exact add_tab rb ts idx b _ _ q _ val key w m _ _ fp _ h hc hz ht hn m0 m1 f ft fs fd fdd hbt htr hlt hR hk hks hy hsub
end Go.Proofs.Ytlhlehmmaoadgaa
