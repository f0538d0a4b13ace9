/- IndexAny and LastIndexAny over rows: plain laws, and what they call. -/
import Derived.Test.YthnbifkcbeldmaaDoorBTrimAll
import Derived.Test.YthnbifkcbeldmaaDoorLastAny
import Derived.Test.YthnbifkcbeldmaaDoorIndexB
namespace Go.Proofs.YthnbifkcbeldmaaDoor
open Go Go.Shelf Go.RowKit Go.Lib
set_option linter.unusedVariables false

/-- the first place of a code point that is such -/
def FirstIs (p : Nat → Bool) (l : List UInt8) (v : Int) : Prop :=
  (v = -1 ∧ ∀ j, St l j → j < l.length → p (rn l j) = false) ∨ ∃ j : Nat, v = (j : Int) ∧ St l j ∧ j < l.length ∧ p (rn l j) = true ∧ ∀ k, St l k → k < j → p (rn l k) = false
theorem FirstIs.one {p : Nat → Bool} {l : List UInt8} {v v' : Int} (h : FirstIs p l v) (h' : FirstIs p l v') : v = v' := by
  rcases h with ⟨rfl, h1⟩ | ⟨j, rfl, h1, h2, h3, h4⟩ <;> rcases h' with ⟨rfl, g1⟩ | ⟨k, rfl, g1, g2, g3, g4⟩
  · rfl
  · rw [h1 k g1 g2] at g3; cases g3
  · rw [g1 j h1 h2] at h3; cases h3
  · rcases Nat.lt_trichotomy j k with h | h | h
    · rw [g4 j h1 h] at h3; cases h3
    · rw [h]
    · rw [h4 k g1 h] at g3; cases g3
theorem first_from (s cut : ByteArray) : ∀ (f pos : Nat), St s.data.toList pos → s.data.toList.length ≤ pos + f → (∀ k, St s.data.toList k → k < pos → pOf cut (rn s.data.toList k) = false) →
    FirstIs (pOf cut) s.data.toList (firstW s (fun r => hasR cut r == true) (tailStarts s pos))
  | 0, pos, hs, hf, hall => by
    rw [← Lib.size_eq] at hf
    rw [tailStarts_end s pos (by omega), firstW]
    exact .inl ⟨rfl, fun j hj hl => hall j hj (by rw [← Lib.size_eq] at hl; omega)⟩
  | f + 1, pos, hs, hf, hall => by
    have hz : s.data.toList.length = s.size := (Lib.size_eq s).symm
    by_cases hp : pos < s.size
    · have h1 := wd_le s.data.toList pos (by omega)
      have hd := dec_list s pos
      have hph := pOf_has cut (rn s.data.toList pos) (rn_scal _ _)
      have hd1 : (Utf8.decode s pos).1 = rn s.data.toList pos := by unfold rn; rw [hd]
      have hd2 : (Utf8.decode s pos).2 = wd s.data.toList pos := by unfold wd; rw [hd]
      rw [tailStarts_step s pos hp, firstW, hd1, hd2, ← hph]
      cases hq : pOf cut (rn s.data.toList pos) with
      | true =>
        rw [if_pos (by rfl)]
        exact .inr ⟨pos, rfl, hs, by omega, hq, hall⟩
      | false =>
        rw [if_neg (by decide)]
        refine first_from s cut f _ (hs.next (by omega)) (by omega) fun k hk hkl => ?_
        by_cases h2 : k < pos
        · exact hall k hk h2
        · by_cases h3 : k = pos
          · subst h3; exact hq
          · have := hs.chain hk (by omega); omega
    · rw [tailStarts_end s pos hp, firstW]
      exact .inl ⟨rfl, fun j hj hl => hall j hj (by omega)⟩
theorem first_is (s cut : ByteArray) : FirstIs (pOf cut) s.data.toList (firstW s (fun r => hasR cut r == true) (starts s)) := by
  rw [← tailStarts_zero]
  exact first_from s cut s.data.toList.length 0 (St.zero _) (by omega) (fun k _ h => absurd h (Nat.not_lt_zero _))
theorem ascii_no {cut : ByteArray} {l : List UInt8} (ha : ∀ c ∈ cut.data.toList, c.toNat < 128) {k : Nat} (hkl : k < l.length) (h : cut.data.toList.contains (l.getD k 0) = false) (hk : St l k) : pOf cut (rn l k) = false := by
  cases hp : pOf cut (rn l k) with
  | false => rfl
  | true =>
    obtain ⟨c, hc, hcr, hc1⟩ := (pOf_ascii ha _).1 hp
    have hb : (l.getD k 0).toNat < 128 := by
      apply Nat.lt_of_not_le
      intro hge
      have h2 : 128 ≤ (decodeN (l.length - k) (l.getD k 0).toNat (l.getD (k + 1) 0).toNat (l.getD (k + 2) 0).toNat (l.getD (k + 3) 0).toNat).1 := by
        unfold decodeN
        repeat' split
        all_goals (simp only; omega)
      rw [← decL_at] at h2
      unfold rn at hcr
      omega
    have hd := decL_at l k
    rw [decodeN_ascii _ _ _ _ _ hb] at hd
    have hcc : c = l.getD k 0 := UInt8.toNat_inj.1 (by rw [hcr]; unfold rn; rw [hd])
    rw [← hcc, show cut.data.toList.contains c = true by simpa using hc] at h
    cases h
/-- what the decoding of a wide code point says of its width -/
theorem wide_enc {l : List UInt8} {i : Nat} (hi : i < l.length) (hb : 128 ≤ (l.getD i 0).toNat) (hne : rn l i ≠ 65533) : 128 ≤ rn l i ∧ rn l i ≤ 1114111 ∧ (rn l i < 55296 ∨ 57343 < rn l i) ∧ wd l i = (Utf8.encode (rn l i : Int)).size := by
  have key : ∀ n b0 b1 b2 b3 : Nat, 128 ≤ b0 → b0 < 256 → b1 < 256 → b2 < 256 → b3 < 256 → (decodeN n b0 b1 b2 b3).1 = 65533 ∨ (128 ≤ (decodeN n b0 b1 b2 b3).1 ∧ (decodeN n b0 b1 b2 b3).1 < 2048 ∧ (decodeN n b0 b1 b2 b3).2 = 2) ∨
      (2048 ≤ (decodeN n b0 b1 b2 b3).1 ∧ (decodeN n b0 b1 b2 b3).1 < 65536 ∧ ((decodeN n b0 b1 b2 b3).1 < 55296 ∨ 57343 < (decodeN n b0 b1 b2 b3).1) ∧ (decodeN n b0 b1 b2 b3).2 = 3) ∨ (65536 ≤ (decodeN n b0 b1 b2 b3).1 ∧ (decodeN n b0 b1 b2 b3).1 ≤ 1114111 ∧ (decodeN n b0 b1 b2 b3).2 = 4) := fun n b0 b1 b2 b3 h0 k0 k1 k2 k3 => by
    obtain ⟨r, k, hrk⟩ : ∃ r k, decodeN n b0 b1 b2 b3 = (r, k) := ⟨_, _, rfl⟩
    rw [hrk]
    unfold decodeN at hrk
    repeat' split at hrk
    all_goals (injection hrk with e1 e2; clear hi hb hne; simp only; first | (exact .inl (by omega)) | (exact .inr (.inl ⟨by omega, by omega, by omega⟩)) | (exact .inr (.inr (.inl ⟨by omega, by omega, by omega, by omega⟩))) | (exact .inr (.inr (.inr ⟨by omega, by omega, by omega⟩))) | (exfalso; omega))
  have hk := key (l.length - i) _ _ _ _ hb (l.getD i 0).toNat_lt (l.getD (i + 1) 0).toNat_lt (l.getD (i + 2) 0).toNat_lt (l.getD (i + 3) 0).toNat_lt
  rw [← decL_at] at hk
  change rn l i = 65533 ∨ (128 ≤ rn l i ∧ rn l i < 2048 ∧ wd l i = 2) ∨ (2048 ≤ rn l i ∧ rn l i < 65536 ∧ (rn l i < 55296 ∨ 57343 < rn l i) ∧ wd l i = 3) ∨ (65536 ≤ rn l i ∧ rn l i ≤ 1114111 ∧ wd l i = 4) at hk
  generalize rn l i = R at *
  generalize wd l i = K at *
  rcases hk with h | ⟨h1, h2, h3⟩ | ⟨h1, h2, h3, h4⟩ | ⟨h1, h2, h3⟩
  · exact absurd h hne
  · refine ⟨h1, by omega, by omega, ?_⟩
    rw [h3, Lib.size_eq, Go.Extern.FmtText.enc2 R (by omega) h2]; rfl
  · refine ⟨by omega, by omega, h3, ?_⟩
    rw [h4, Lib.size_eq, Go.Extern.FmtText.enc3 R (by omega) h2 (by omega)]; rfl
  · refine ⟨by omega, h2, by omega, ?_⟩
    rw [h3, Lib.size_eq, Go.Extern.FmtText.enc4 R (by omega) h2]; rfl
theorem eq_enc {cut : ByteArray} {R : Nat} (h0 : 128 ≤ R) (h1 : R ≤ 1114111) (h2 : R < 55296 ∨ 57343 < R) (h3 : R ≠ 65533) (hsz : cut.size = (Utf8.encode (R : Int)).size) : (cut.toList == (Utf8.encode (R : Int)).toList) = pOf cut R := by
  have hir : irOf cut (R : Int) = Lib.index cut.data.toList (Utf8.encode (R : Int)).data.toList := by
    unfold irOf
    rw [if_neg (by omega), if_neg (by omega), if_pos (valid_scal h1 h2)]
  unfold pOf
  rw [hir, Lib.toList_data, Lib.toList_data]
  rw [Lib.size_eq, Lib.size_eq] at hsz
  generalize (Utf8.encode (R : Int)).data.toList = E at *
  generalize cut.data.toList = l at *
  rcases Lib.index_spec l E with ⟨h, hn⟩ | ⟨i, h, hi, ho, _⟩
  · rw [h]
    have hne : l ≠ E := fun e => by
      have := hn 0 (Nat.zero_le _)
      unfold occAt at this
      rw [e, List.drop_zero] at this
      rw [List.isPrefixOf_iff_prefix.2 (List.prefix_refl _)] at this
      cases this
    rw [beq_eq_false_iff_ne.2 hne]
    rfl
  · rw [h]
    unfold occAt at ho
    have hp := List.isPrefixOf_iff_prefix.1 ho
    have hle := hp.length_le
    rw [List.length_drop] at hle
    by_cases hE : E.length = 0
    · have e1 := List.eq_nil_of_length_eq_zero hE
      have e2 := List.eq_nil_of_length_eq_zero (hsz.trans hE)
      rw [e1, e2]; simp
    · obtain rfl : i = 0 := by omega
      rw [List.drop_zero] at hp
      have e := hp.eq_of_length hsz.symm
      rw [e]
      simp
theorem ibStr (cut : ByteArray) (x : UInt8) (hx : x.toNat < 128) (hc : cut.size < 4294967281) (W : World) : Calls Tryd.prog 105 #[.string cut, .int .u8 (x.toNat : Int)] W fun e w' => e = .returned (.int .i64 (irOf cut ((x.toNat : Nat) : Int))) ∧ w' = W := by
  have h := indexByteStr cut (x.toNat : Int) (by omega) (by omega) (by have := x.toNat_lt; omega) W
  have e : index cut.data.toList (Go.Proofs.YthnbifkcbeldmaaDoor.b1 (x.toNat : Int)).data.toList = irOf cut ((x.toNat : Nat) : Int) := by
    unfold irOf
    rw [if_pos ⟨by omega, by omega⟩]
    exact Lib.index_one _ _
  rw [e] at h
  exact h.mono (fun e w' ⟨a, b⟩ => ⟨a, b.symm⟩)
set_option maxHeartbeats 800000 in
theorem gbShould (n : Nat) (w : World) : Calls Tryd.prog 107 #[.int .i64 (n : Int)] w fun e w' => e = .returned (.bool (decide (8 < n))) ∧ w' = w := by
  have h : decide ((8 : Int) < (n : Int)) = decide (8 < n) := by rw [decide_eq_decide]; omega
  go_enter Tryd.func107, Tryd.ntmps107
  go_wp2_with fail
  go_ret
  exact ⟨by rw [← h]; rfl, rfl⟩
def IaPost (w : World) (s cut : ByteArray) (e : Ending) (w' : World) : Prop := ∃ v : Int, e = .returned (.int .i64 v) ∧ FirstIs (pOf cut) s.data.toList v ∧ Below w.heap.size w w'
theorem IaPost.ret {w w' : World} {s cut : ByteArray} {v : Int} (h : FirstIs (pOf cut) s.data.toList v) (hB : Below w.heap.size w w') : IaPost w s cut (.returned (.int .i64 v)) w' := ⟨v, rfl, h, hB⟩
def IaRel (w : World) (cut s : ByteArray) (v : Value) (wr : World) : Prop := ∃ i : Nat, v = .int .i64 (i : Int) ∧ i ≤ s.size ∧ St s.data.toList i ∧ (∀ k, St s.data.toList k → k < i → pOf cut (rn s.data.toList k) = false) ∧ Below w.heap.size w wr
end Go.Proofs.YthnbifkcbeldmaaDoor
