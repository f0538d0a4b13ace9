/- A call that returns bytes: its clone, its text. -/
import Derived.Test.YthnbifkcbeldmaaDoorBRep
import Derived.Shelf.Bytes.SlSmallAll
namespace Go.Proofs.YthnbifkcbeldmaaDoor
open Go Go.Shelf Go.RowKit Go.Lib
set_option linter.unusedVariables false
theorem mk_drop (s : ByteArray) (i : Nat) : (⟨(s.data.toList.drop i).toArray⟩ : ByteArray) = s.extract i s.size := by
  rw [← Lib.mk_data (s.extract i s.size), Lib.extract_to_end]
theorem row_upto {w : World} {b o : Nat} {s : ByteArray} (h : Row w b o s) (i : Nat) : Row w b o (s.extract 0 i) := fun k hk => by
  rw [ByteArray.size_extract] at hk
  rw [h k (by omega)]
  simp [ByteArray.getElem_extract]
theorem retRow_of {w w' : World} {b x n c : Nat} {t R : ByteArray} (hR : R = t) (hn : t.size = n) (hcap : n ≤ c) (hm : c ≤ maxLen) (hrow : Row w' b x t) (hB : Below w.heap.size w w') : RetRow w R (.returned (.slice (some ⟨b, x, none⟩) n c)) w' := by
  subst hR hn
  exact ⟨_, c, rfl, hcap, hm, fun h => (by cases h), fun a ha => (by cases ha; exact ⟨b, x, rfl, hrow⟩), hB⟩
theorem retRow_nil {w w' : World} {R : ByteArray} (hR : R.size = 0) (hB : Below w.heap.size w w') : RetRow w R (.returned (.slice none 0 0)) w' :=
  ⟨none, 0, by rw [hR], by omega, Nat.zero_le _, fun _ => ⟨hR, rfl⟩, fun a ha => (by cases ha), hB⟩
theorem retRow_wide {w W w' : World} {R : ByteArray} {e : Ending} (hB : Below w.heap.size w W) (h : RetRow W R e w') : RetRow w R e w' := by
  obtain ⟨p, cap, h1, h2, h3, h4, h5, h6⟩ := h
  exact ⟨p, cap, h1, h2, h3, h4, h5, hB.trans (h6.mono hB.size)⟩
/-- the value that RetRow hands over, laid in a world -/
def RowAt (W : World) (p : Option Addr) (cap : Nat) (R : ByteArray) : Prop := (p = none → R.size = 0 ∧ cap = 0) ∧ ∀ a, p = some a → ∃ b o, a = ⟨b, o, none⟩ ∧ Row W b o R
theorem RowAt.later {W W' : World} {p : Option Addr} {cap : Nat} {R : ByteArray} (h : RowAt W p cap R) (hB : Below W.heap.size W W') : RowAt W' p cap R :=
  ⟨h.1, fun a ha => by obtain ⟨b, o, h1, h2⟩ := h.2 a ha; exact ⟨b, o, h1, h2.later hB⟩⟩
theorem hbackRet (W : World) (p : Option Addr) (cap : Nat) (R : ByteArray) (h : RowAt W p cap R) : (convert 24 9 (.slice p R.size cap)).run Tryd.prog W = .ok (.string R) W := by
  cases p with
  | none =>
    have h0 := (h.1 rfl).1
    have hR : R = ByteArray.empty := by
      have h2 : R.data.toList = [] := List.eq_nil_of_length_eq_zero (by rw [← Lib.size_eq]; exact h0)
      rw [← Lib.mk_data R, h2]; rfl
    rw [h0, hR]
    exact run_convert_bytes_zero (P := Tryd.prog) W 24 5 Tryd.underlying24 Tryd.underlying5 none cap 9 Tryd.underlying9
  | some a =>
    obtain ⟨b, o, rfl, hr⟩ := h.2 a rfl
    exact hback W b o cap R hr
set_option maxHeartbeats 1600000 in
theorem cloneNil (w : World) (n c : Nat) : Calls Tryd.prog 44 #[.slice none n c] w fun e w' => e = .returned (.slice none 0 0) ∧ w' = w := by
  have q22 : ∀ (w : World) (a : Option Addr) (n c n' c' : Nat), (binOp .eql 24 (.slice a n c) (.slice none n' c')).run Tryd.prog w = .ok (.bool a.isNone) w := fun w a n c n' c' => Lib.run_eql_slice_nil w _ _ a n c n' c' Tryd.underlying24
  go_enter Tryd.func44, Tryd.ntmps44
  go_wp2
  go_ret
  exact ⟨rfl, rfl⟩
theorem cloneRet (p : Option Addr) (cap : Nat) (R : ByteArray) (w : World) (hbig : R.size ≤ 140737488355328) (h : RowAt w p cap R) :
    Calls Tryd.prog 44 #[.slice p R.size cap] w (RetRow w R) := by
  cases p with
  | none => exact (cloneNil w _ _).mono fun e w' ⟨h1, h2⟩ => by rw [h1, h2]; exact retRow_nil (h.1 rfl).1 (Below.refl _ _)
  | some a =>
    obtain ⟨b, o, rfl, hr⟩ := h.2 a rfl
    refine (clone b o cap R w hbig hr).mono fun e w' h0 => ?_
    obtain ⟨g, cp, h1, h2, h3, h4, h5, h6, h7, h8⟩ := h0
    rw [h1]
    exact retRow_of rfl rfl h2 h3 h7 h8
end Go.Proofs.YthnbifkcbeldmaaDoor
