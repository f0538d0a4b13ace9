/- NewReplacer at an even number of texts. -/
import Derived.Test.YtlhlehmmaoadgaaMkS
namespace Go.Proofs.Ytlhlehmmaoadgaa
open Go.RowKit Go.Lib
set_option linter.unusedVariables false

theorem news_ways (l : List ByteArray) (n : Nat) : NewsOne l n ∨ ∃ j, j < n ∧ NewsOne l j ∧ (l.getD (2 * j + 1) ⟨#[]⟩).size ≠ 1 := by
  induction n with
  | zero => exact .inl fun j h => absurd h (Nat.not_lt_zero _)
  | succ n ih =>
    rcases ih with h | ⟨j, hj, h1, h2⟩
    · by_cases hc : (l.getD (2 * n + 1) ⟨#[]⟩).size = 1
      · refine .inl fun j hj => ?_
        by_cases e : j = n
        · subst e; exact hc
        · exact h j (by omega)
      · exact .inr ⟨n, by omega, h, hc⟩
    · exact .inr ⟨j, by omega, h1, h2⟩
theorem build_any (rr n cap : Nat) (a : Option Addr) (l : List ByteArray) (w : World) (hc : w.cell? ⟨rr, 1, none⟩ = some (.slice a (2 * n) cap)) (hl : l.length = 2 * n) (hs : StrsAt w w.heap.size a l) (hn : 2 * n ≤ 2147483647) (hk : ∀ s ∈ l, s.size ≤ 2147483647) :
    Calls Try.prog 17 #[.pointer (some ⟨rr, 0, none⟩)] w (MkPost w l n) := by
  by_cases hsg : n = 1 ∧ 1 < (l.getD 0 ⟨#[]⟩).size
  · obtain ⟨rfl, hp⟩ := hsg
    obtain ⟨p, q, rfl⟩ : ∃ p q, l = [p, q] := by
      match l, hl with
      | [p, q], _ => exact ⟨p, q, rfl⟩
    obtain ⟨x, rfl, _, h0⟩ := hs 0 (by simp)
    obtain ⟨y, hy, _, h1⟩ := hs (0 + 1) (by simp)
    obtain rfl := Option.some.inj hy
    rw [show x.add 0 = x by unfold Addr.add; split <;> simp_all] at h0
    rw [Addr.add_succ'] at h1
    have hkp := hk p (by simp)
    exact build_single rr x cap p q w hc h0 h1 hp (by omega)
  · have hno : n = 1 → (l.getD 0 ⟨#[]⟩).size ≤ 1 := fun e => Nat.le_of_not_lt (fun h => hsg ⟨e, h⟩)
    rcases olds_ways l n with hone | ⟨j0, hj0, h1, h2⟩
    · rcases news_ways l n with hnew | ⟨k0, hk0, h1, h2⟩
      · exact build_byte rr n cap a l w hc hl hs hn hk hone hnew
      · exact build_bytes rr n cap a l w hc hl hs hn hk hone k0 hk0 h1 h2
    · exact build_generic rr n cap a l w hc hl hs hn hk hno j0 hj0 h1 h2
/-- a Replacer, made -/
def NewAt (w : World) (lo rr : Nat) (l : List ByteArray) (n : Nat) : Prop := lo ≤ rr ∧ rr < w.heap.size ∧ ∃ v, w.cell? ⟨rr, 0, none⟩ = some v ∧ ∀ w2, AgreeOn lo w.heap.size w w2 → RplAt w2 w.heap.size l n v
theorem RplAt.more {w : World} {B B' n : Nat} {l : List ByteArray} {v : Value} (h : RplAt w B l n v) (hB : B ≤ B') : RplAt w B' l n v := by
  cases h with
  | single hl hp h =>
    obtain ⟨fb, tb, bad, far, c0, c1, R, h1, h2, h3⟩ := h
    exact .single hl hp ⟨fb, tb, bad, far, c0, c1, R, by omega, by omega, by omega⟩
  | generic h =>
    obtain ⟨⟨u, fp, g, T, R, F, P, K⟩, hl⟩ := h
    exact .generic ⟨⟨u, fp, g, T, R, fun x hx => Nat.lt_of_lt_of_le (F x hx) hB, P, K⟩, Nat.lt_of_lt_of_le hl hB⟩
  | byte hr h hf => exact .byte (Nat.lt_of_lt_of_le hr hB) h hf
  | bytes h hf hF => exact .bytes (fun w2 hb2 => h w2 (hb2.mono hB)) hf hF
theorem NewAt.agree {w w' : World} {lo lo' rr n : Nat} {l : List ByteArray} (h : NewAt w lo rr l n) (hb : AgreeOn lo w.heap.size w w') (hs : w.heap.size ≤ w'.heap.size) (hlo : lo' ≤ lo) : NewAt w' lo' rr l n := by
  obtain ⟨h1, h2, v, h3, h4⟩ := h
  refine ⟨by omega, by omega, v, (hb.cell h1 h2).trans h3, fun w2 ha => (h4 w2 (fun x a1 a2 => ?_)).more hs⟩
  rw [ha x (by omega) (by omega), hb x a1 a2]
theorem NewAt.later {w w' : World} {lo rr n : Nat} {l : List ByteArray} (h : NewAt w lo rr l n) (hb : Below w.heap.size w w') : NewAt w' lo rr l n :=
  h.agree (fun x _ a2 => hb.block x a2) hb.size (Nat.le_refl _)
theorem NewAt.rpl {w : World} {lo rr n : Nat} {l : List ByteArray} (h : NewAt w lo rr l n) : ∃ v, w.cell? ⟨rr, 0, none⟩ = some v ∧ RplAt w w.heap.size l n v := by
  obtain ⟨h1, h2, v, h3, h4⟩ := h
  exact ⟨v, h3, h4 w (fun x _ _ => rfl)⟩
theorem RplAt.form {w : World} {B n : Nat} {l : List ByteArray} {v : Value} (h : RplAt w B l n v) : ∃ (t rb : Nat), v = .iface t (.pointer (some ⟨rb, 0, none⟩)) := by
  cases h <;> exact ⟨_, _, rfl⟩
set_option maxHeartbeats 1600000 in
set_option maxRecDepth 100000 in
theorem buildOnce (rr n cap : Nat) (a : Option Addr) (l : List ByteArray) (w : World) (hb : w.heap[rr]? = some (.cells #[.nilIface, .slice a (2 * n) cap] 51 (0, 0))) (hl : l.length = 2 * n) (hs : StrsAt w w.heap.size a l) (hn : 2 * n ≤ 2147483647) (hk : ∀ s ∈ l, s.size ≤ 2147483647) :
    Calls Try.prog 16 #[.pointer (some ⟨rr, 0, none⟩)] w fun e w' => e = .returned (.tuple #[]) ∧ NewAt w' rr rr l n ∧ Below rr w w' := by
  have hlt : rr < w.heap.size := (Array.getElem?_eq_some_iff.1 hb).1
  have c1 : w.cell? ⟨rr, 1, none⟩ = some (.slice a (2 * n) cap) := cell1_of hb
  have HBD := Lib.hid (build_any rr n cap a l w c1 hl hs hn hk)
  have HBK := Lib.hid hb
  clear hb hl hs hk
  go_enter Try.func16, Try.ntmps16
  go_wp2_with (go_at_call 17; refine HBD.out.mono ?_; rintro e w1 ⟨v, rfl, hR, hB⟩; obtain ⟨tt, rb, rfl⟩ := (hR w1 (fun x _ _ => rfl)).form; have hb1 : w1.heap[rr]? = some (.cells #[.nilIface, .slice a (2 * n) cap] 51 (0, 0)) := (hB.block rr hlt).trans HBK.out; have d0 : w1.cell? ⟨rr, 0, none⟩ = some .nilIface := (Lib.cell_of_heap hb1 0).trans rfl; have d1 : w1.cell? ⟨rr, 1, none⟩ = some (.slice a (2 * n) cap) := cell1_of hb1; have f0 := Lib.frozen_of_heap hb1 0; have f1 := Lib.frozen_of_heap hb1 1)
  go_end0
  have hag : AgreeOn w.heap.size w1.heap.size w1 ((w1.setCell ⟨rr, 0, none⟩ (.iface tt (.pointer (some ⟨rb, 0, none⟩)))).setCell ⟨rr, 1, none⟩ (.slice none 0 0)) := fun x h1 h2 => by
    rw [Below.heap_setCell _ ⟨rr, 1, none⟩ _ x (by show x ≠ rr; omega), Below.heap_setCell _ ⟨rr, 0, none⟩ _ x (by show x ≠ rr; omega)]
  refine ⟨rfl, ⟨Nat.le_refl _, ?_, _, ?_, fun w3 ha => (hR w3 (fun x a1 a2 => ?_)).more (by simp)⟩, ((hB.mono (Nat.le_of_lt hlt)).setCell (p := ⟨rr, 0, none⟩) (Nat.le_refl _) _).setCell (p := ⟨rr, 1, none⟩) (Nat.le_refl _) _⟩
  · have := hB.size
    simp
    omega
  · rw [World.cell?_setCell_other _ _ _ _ (by simp)]
    exact World.cell?_setCell_same _ _ _ d0
  · rw [ha x (by omega) (by simpa using a2), hag x a1 a2]
theorem own_form {w : World} {base e size n : Nat} {v : Value} {xs : List Value} (h : w.ownsRow base e size v n xs) : ∃ a c, v = .slice a n c := by
  rcases h.2 with ⟨h1, h2⟩ | ⟨g, cap, cur, h1, _⟩
  · exact ⟨none, 0, by rw [h1, h2]⟩
  · exact ⟨_, _, h1⟩
theorem strs_of_own {w : World} {base n c : Nat} {ao : Option Addr} {l : List ByteArray} (hl : l.length = n) (h : w.ownsRow base 9 1 (.slice ao n c) n (l.map Value.string)) : StrsAt w w.heap.size ao l := fun i hi => by
  rcases h.2 with ⟨h1, h2⟩ | ⟨g, cap, cur, h1, _, hg, _⟩
  · omega
  · injection h1 with e1 e2 e3
    refine ⟨⟨g, 0, none⟩, e1, (Array.getElem?_eq_some_iff.1 hg).1, ?_⟩
    exact World.ownsRow.cells h (g := g) (by rw [e1]; rfl) i (.string l[i]) (by simp [hi])
theorem StrsAt.more {w : World} {B B' : Nat} {a : Option Addr} {l : List ByteArray} (h : StrsAt w B a l) (hB : B ≤ B') : StrsAt w B' a l := fun i hi => by
  obtain ⟨x, e, h1, h2⟩ := h i hi
  exact ⟨x, e, Nat.lt_of_lt_of_le h1 hB, h2⟩
theorem StrsAt.later {w w' : World} {a : Option Addr} {l : List ByteArray} (h : StrsAt w w.heap.size a l) (hb : Below w.heap.size w w') : StrsAt w' w'.heap.size a l := (h.below hb).more hb.size
set_option maxHeartbeats 1600000 in
set_option maxRecDepth 100000 in
theorem newRepl (n cap : Nat) (a : Option Addr) (l : List ByteArray) (w : World) (hl : l.length = 2 * n) (hs : StrsAt w w.heap.size a l) (hn : 2 * n ≤ 2147483647) (hk : ∀ s ∈ l, s.size ≤ 2147483647) (hcap : a = none → cap = 0) :
    Calls Try.prog 15 #[.slice a (2 * n) cap] w fun e w' => ∃ rr, e = .returned (.pointer (some ⟨rr, 0, none⟩)) ∧ NewAt w' w.heap.size rr l n ∧ Below w.heap.size w w' := by
  obtain ⟨i0, hi, hz0, hz1, hz2⟩ := info_parts infoStr
  have HS := Lib.hid hs
  have HL := Lib.hid hl
  have HK := Lib.hid hk
  have hev : ((2 * (n : Int)) % 2 == 1) = false := beq_eq_false_iff_ne.2 (by omega)
  clear hs hl hk
  cases a with
  | none =>
    obtain rfl : n = 0 := by
      by_cases h : n = 0
      · exact h
      · obtain ⟨x, hx, _⟩ := HS.out 0 (by have := HL.out; omega)
        cases hx
    obtain rfl := hcap rfl
    obtain rfl : l = [] := List.eq_nil_of_length_eq_zero (by have := HL.out; omega)
    go_enter Try.func15, Try.ntmps15
    go_wp2_with (first
      | (at_builtin; refine wpList_append_own_none (by rfl) _ _ 22 (by rfl) w.heap.size 9 i0 1 Try.underlying22 hi (.slice none 0 0) 0 [] (by rfl) (World.ownsRow_nil _ _ _ _) (by rfl) ?_)
      | fail)
    refine (buildOnce w.heap.size 0 0 none [] _ (heap_alloc_new w _) rfl (fun i hi => absurd hi (Nat.not_lt_zero _)) (by omega) HK.out).mono ?_
    rintro e w2 ⟨rfl, hN, hB2⟩
    have hBB := Lib.hid (((Below.refl _ w).alloc (Nat.le_refl w.heap.size) (.cells #[.nilIface, .slice none 0 0] 51)).trans hB2)
    clear hB2
    go_wp2_with fail
    go_ret
    exact ⟨_, rfl, hN, hBB.out⟩
  | some x =>
    have HCE : Hid (∀ j v, (l.map Value.string)[j]? = some v → w.cell? (x.add j) = some v) := Lib.hid (fun j v hj => by
      rw [List.getElem?_map] at hj
      obtain ⟨s, hs, rfl⟩ := Option.map_eq_some_iff.1 hj
      obtain ⟨hjl, rfl⟩ := List.getElem?_eq_some_iff.1 hs
      obtain ⟨y, hy, _, hc⟩ := HS.out j hjl
      obtain rfl := Option.some.inj hy
      exact hc)
    go_enter Try.func15, Try.ntmps15
    go_wp2_with (first
      | (at_builtin; refine wpList_append_own _ (by rfl) _ _ 22 (by rfl) w.heap.size 9 i0 (.string ⟨#[]⟩) 1 16 Try.underlying22 hi hz0 hz1 hz2 (by rfl) (by decide) (.slice none 0 0) 0 [] (by rfl) (World.ownsRow_nil _ _ _ _) x (2 * n) cap (l.map Value.string) (by rfl) (by rw [List.length_map, HL.out, Nat.mul_one]) HCE.out (fun u hu => by obtain ⟨s, _, rfl⟩ := List.mem_map.1 hu; rfl) (by unfold maxLen; omega) (by omega) (Nat.le_refl _) ?_; intro v1 w1 hown hgr hnil; obtain ⟨ao1, c1, rfl⟩ := own_form hown; have HOWN := Lib.hid hown; have HGR := Lib.hid hgr; clear hown hgr hnil)
      | fail)
    have hown := HOWN.out
    rw [Nat.zero_add, List.nil_append] at hown
    have hB1 : Below w.heap.size w w1 := (Below.refl _ w).grown HGR.out (Nat.le_refl _) (fun k hk => by simp [Value.ownBlock] at hk)
    have hst := (strs_of_own HL.out hown).later ((Below.refl w1.heap.size w1).alloc (Nat.le_refl _) (.cells #[.nilIface, .slice ao1 (2 * n) c1] 51))
    refine (buildOnce w1.heap.size n c1 ao1 l _ (heap_alloc_new w1 _) HL.out hst hn HK.out).mono ?_
    rintro e w2 ⟨rfl, hN, hB2⟩
    have hBB := Lib.hid ((hB1.alloc hB1.size _).trans (hB2.mono hB1.size))
    clear HOWN HGR HCE hown hst hB2
    go_wp2_with fail
    go_ret
    exact ⟨_, rfl, hN.agree (fun x _ _ => rfl) (Nat.le_refl _) hB1.size, hBB.out⟩
end Go.Proofs.Ytlhlehmmaoadgaa
