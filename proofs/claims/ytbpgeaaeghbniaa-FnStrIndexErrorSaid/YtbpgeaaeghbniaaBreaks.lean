/- The reference's SeBreaks: where a text is parted. -/
import Derived.Test.YtbpgeaaeghbniaaSeStarts
import Derived.Test.YtbpgeaaeghbniaaSpecAt
import Derived.Test.YtbpgeaaeghbniaaBrk
import Derived.Deep.Onto
namespace Go.Proofs.Ytbpgeaaeghbniaa
open Go.RowKit Go.Lib
set_option linter.unusedVariables false

theorem empty_of (s : ByteArray) : s.toList.isEmpty = decide (s.size = 0) := by
  rw [Lib.toList_data, Bool.eq_iff_iff, List.isEmpty_iff, decide_eq_true_iff, ← List.length_eq_zero_iff]
  have : s.data.toList.length = s.size := by simp
  rw [this]
/-- where a text is parted by another one -/
def breaks (s sep : ByteArray) (m : Int) : List Nat := cutMost m (if sep.size = 0 then (starts s).tail else brk s.data.toList sep.data.toList 0)
theorem starts_le (s : ByteArray) : (starts s).length ≤ s.size := by rw [starts_length]; exact runeCount_le s

/-- a row of numbers, read -/
theorem own_ints {w : World} {base : Nat} {v : Value} {l : List Nat} (h : w.ownsRow base 3 1 v l.length (l.map fun i : Nat => Value.int .i64 (i : Int))) :
    ∃ a cap, v = .slice a l.length cap ∧ l.length ≤ cap ∧ ∀ k (hk : k < l.length), ∃ g, a = some ⟨g, 0, none⟩ ∧ g < w.heap.size ∧ w.cell? ⟨g, k, none⟩ = some (.int .i64 (l[k] : Int)) := by
  have hlt := h.lt
  have hc0 := @World.ownsRow.cells _ _ _ _ _ _ _ h
  rcases h.2 with ⟨rfl, hn⟩ | ⟨g, cap, cur, rfl, _, _, h1, _⟩
  · exact ⟨none, 0, by rw [hn], by omega, fun k hk => by omega⟩
  · refine ⟨_, cap, rfl, h1, fun k hk => ⟨g, rfl, (hlt g rfl).2, ?_⟩⟩
    have := hc0 (g := g) rfl k (.int .i64 (l[k] : Int)) (by simp [hk])
    rw [show (⟨g, 0, none⟩ : Addr).add k = ⟨g, k, none⟩ by unfold Addr.add; split <;> simp_all] at this
    exact this

end Go.Proofs.Ytbpgeaaeghbniaa
