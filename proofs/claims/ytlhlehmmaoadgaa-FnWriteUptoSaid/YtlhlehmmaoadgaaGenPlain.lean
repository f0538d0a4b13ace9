/- Plain: the places of the bytes that keys use, and what the pairs stand for. -/
import Derived.Test.YtlhlehmmaoadgaaTriOps
namespace Go.Proofs.Ytlhlehmmaoadgaa
open Go.RowKit Go.Lib
set_option linter.unusedVariables false

/-- how many of the first k bytes are used -/
def cntU (u : Nat → Bool) : Nat → Nat
  | 0 => 0
  | k + 1 => cntU u k + if u k then 1 else 0
theorem cntU_le (u : Nat → Bool) : ∀ k, cntU u k ≤ k
  | 0 => Nat.le_refl _
  | k + 1 => by have := cntU_le u k; unfold cntU; split <;> omega
theorem cntU_mono (u : Nat → Bool) (a : Nat) : ∀ d, cntU u a ≤ cntU u (a + d)
  | 0 => Nat.le_refl _
  | d + 1 => by have := cntU_mono u a d; rw [← Nat.add_assoc, cntU]; omega
theorem cntU_lt (u : Nat → Bool) {a b : Nat} (h : a < b) (hu : u a = true) : cntU u a < cntU u b := by
  have := cntU_mono u (a + 1) (b - (a + 1))
  rw [show a + 1 + (b - (a + 1)) = b by omega, cntU, hu] at this
  simp at this
  omega
theorem cntU_room (u : Nat → Bool) {a : Nat} : ∀ {b : Nat}, a < b → u a = false → cntU u b < b
  | 0, h, _ => by omega
  | b + 1, h, hu => by
    unfold cntU
    by_cases e : a = b
    · subst e; rw [hu]; have := cntU_le u a; simp; omega
    · have := cntU_room u (a := a) (b := b) (by omega) hu
      split <;> omega
/-- the place of a byte -/
def idxU (u : Nat → Bool) (x : UInt8) : Nat := if u x.toNat then cntU u x.toNat else cntU u 256 % 256
theorem idxU_lt (u : Nat → Bool) (x : UInt8) : idxU u x < cntU u 256 ↔ u x.toNat = true := by
  unfold idxU
  constructor
  · intro h
    by_cases hu : u x.toNat = true
    · exact hu
    · have := cntU_room u (b := 256) (show x.toNat < 256 from x.toNat_lt) (by simpa using hu)
      rw [if_neg hu, Nat.mod_eq_of_lt this] at h
      omega
  · intro hu
    rw [if_pos hu]
    exact cntU_lt u (b := 256) (show x.toNat < 256 from x.toNat_lt) hu
theorem idxU_inj (u : Nat → Bool) (x y : UInt8) (hx : idxU u x < cntU u 256) (e : idxU u x = idxU u y) : x = y := by
  have h1 := (idxU_lt u x).1 hx
  have h2 := (idxU_lt u y).1 (e ▸ hx)
  unfold idxU at e
  rw [if_pos h1, if_pos h2] at e
  apply UInt8.toNat_inj.1
  rcases Nat.lt_trichotomy x.toNat y.toNat with h | h | h
  · have := cntU_lt u h h1; omega
  · exact h
  · have := cntU_lt u h h2; omega
theorem idxU_le (u : Nat → Bool) (x : UInt8) : idxU u x ≤ 255 := by
  unfold idxU
  split
  · have := cntU_le u x.toNat; have := x.toNat_lt; omega
  · omega

/-- the bytes of a key's first t -/
def hasTo (key : ByteArray) (t : Nat) (c : Nat) : Bool := (key.data.toList.take t).any fun x => x.toNat == c
theorem hasTo_zero (key : ByteArray) (c : Nat) : hasTo key 0 c = false := by simp [hasTo]
theorem hasTo_succ (key : ByteArray) (t : Nat) (h : t < key.size) (c : Nat) : hasTo key (t + 1) c = (hasTo key t c || (key[t].toNat == c)) := by
  unfold hasTo
  rw [List.take_succ_eq_append_getElem (by simpa using h), List.any_append]
  simp
  rfl
/-- the bytes of the first j keys of some pairs -/
def usedTo (l : List ByteArray) : Nat → Nat → Bool
  | 0, _ => false
  | j + 1, c => usedTo l j c || hasTo (l.getD (2 * j) ⟨#[]⟩) (l.getD (2 * j) ⟨#[]⟩).size c
theorem usedTo_key (l : List ByteArray) : ∀ (n j : Nat), j < n → ∀ x ∈ (l.getD (2 * j) ⟨#[]⟩).data.toList, usedTo l n x.toNat = true
  | 0, j, h, _, _ => by omega
  | n + 1, j, h, x, hx => by
    unfold usedTo
    by_cases e : j = n
    · subst e
      have : hasTo (l.getD (2 * j) ⟨#[]⟩) (l.getD (2 * j) ⟨#[]⟩).size x.toNat = true := by
        unfold hasTo
        rw [List.take_of_length_le (by simp), List.any_eq_true]
        exact ⟨x, hx, by simp⟩
      rw [this, Bool.or_true]
    · rw [usedTo_key l n j (by omega) x hx, Bool.true_or]

/-- what the first j pairs of a list stand for: the first of one key counts -/
def keysTo (l : List ByteArray) : Nat → Keys
  | 0 => fun _ => none
  | j + 1 => addK (keysTo l j) (l.getD (2 * j) ⟨#[]⟩).data.toList (l.length - 2 * j) (l.getD (2 * j + 1) ⟨#[]⟩)
end Go.Proofs.Ytlhlehmmaoadgaa
