/- 'for piece := range seq { out = append(out, piece) }': what is kept between two rounds. -/
import Derived.Test.YthnbifkcbeldmaaDoorSeq
import Derived.Test.YthnbifkcbeldmaaDoorPieces
import Derived.Maps.AppendAt
namespace Go.Proofs.YthnbifkcbeldmaaDoor
open Go Go.RowKit Go.Lib
set_option linter.unusedVariables false

/-- box B holds the texts l, in a row of its own from n₁ on; nothing that lay in w has turned -/
def Collects (w : World) (n₁ B : Nat) (t : TypeId) (l : List ByteArray) (W : World) : Prop :=
  (∃ v, Boxed W B t v ∧ W.ownsRow n₁ 9 1 v l.length (l.map Value.string)) ∧ Below w.heap.size w W ∧ n₁ ≤ W.heap.size
theorem collects_abides {w : World} {n₁ B Bs : Nat} {t : TypeId} (hB : B < n₁) (hw : w.heap.size ≤ B) (hne : Bs ≠ B) (hBs : w.heap.size ≤ Bs) (hlt : Bs < n₁) :
    ∀ s A C row, Collects w n₁ B t s A → A.grownBy C row → (∀ r, row = some r → r = Bs ∨ (n₁ ≤ r ∧ ∃ o : Obj, A.heap[r]? = some o ∧ o.isCells = false)) → Collects w n₁ B t s C := by
  rintro s A C row ⟨⟨v, hv, hrow⟩, hb, hn⟩ hg hr
  refine ⟨⟨v, hv.kept hg (fun e => ?_), hrow.kept hg ?_⟩, hb.grown hg hb.size (fun k e => ?_), Nat.le_trans hn hg.size⟩
  · rcases hr B e.symm with h | ⟨h, _⟩ <;> omega
  · rcases hrow.2 with ⟨rfl, _⟩ | ⟨g, cap, cur, rfl, hgn, hgb, _⟩
    · exact .inl rfl
    · refine .inr fun e => ?_
      rcases hr g (by simpa [Value.ownBlock] using e.symm) with h | ⟨_, o, ho, hc⟩
      · omega
      · rw [hgb] at ho; cases ho; cases hc
  · rcases hr k e with h | ⟨h, _⟩ <;> omega
theorem collects_append {w W w1 : World} {n₁ B : Nat} {t : TypeId} {bs : List Nat} {l : List ByteArray} {x : ByteArray} {v v' : Value} {tmp : Obj} (hB : B < n₁) (hw : w.heap.size ≤ B) (hbs : ∀ b ∈ bs, b < n₁ ∧ b ≠ B)
    (hv : Boxed W B t v) (hrow : W.ownsRow n₁ 9 1 v l.length (l.map Value.string)) (hb : Below w.heap.size w W) (hn : n₁ ≤ W.heap.size)
    (hown' : w1.ownsRow n₁ 9 1 v' (l.length + 1) (l.map Value.string ++ [.string x])) (hgrow : (W.alloc tmp).grownBy w1 v.ownBlock) :
    Boxed w1 B t v ∧ (KeepsOthers W (w1.setCell ⟨B, 0, none⟩ v') ∧ KeepsAt bs W (w1.setCell ⟨B, 0, none⟩ v') ∧ Collects w n₁ B t (l ++ [x]) (w1.setCell ⟨B, 0, none⟩ v')) := by
  obtain ⟨h1, h2, h3, h4, h5, h6⟩ := boxed_appended hv hB hrow hn hown' hgrow
  exact ⟨h1, h4, fun b hbb => h5 b (hbs b hbb).1 (hbs b hbb).2, ⟨_, h2, by simpa using h3⟩, hb.trans (h6.mono hw), Nat.le_trans hn h6.size⟩
theorem collects_ret {w W : World} {n₁ B D : Nat} {t : TypeId} {l : List ByteArray} (h : Collects w n₁ B t l W) (hK : W.heap[D]? = some (.deferred (some []))) (hD : w.heap.size ≤ D) :
    ∃ a cap, Boxed W B t (.slice a l.length cap) ∧ StrIn (W.putObj D (.deferred none)) a l ∧ Below w.heap.size w (W.putObj D (.deferred none)) := by
  obtain ⟨⟨v, hv, hrow⟩, hb, hn⟩ := h
  obtain ⟨a, cap, rfl, hin⟩ := own_strs hrow
  obtain ⟨a', cap', e, hin'⟩ := own_strs (ownsRow_putObj hrow (.deferred none) hK rfl)
  injection e with e1 e2 e3
  subst e1 e3
  exact ⟨a, cap, hv, hin', hb.trans (belowK_b (w := w) (Nat.le_refl _) W D _ _ hD hK rfl rfl)⟩
end Go.Proofs.YthnbifkcbeldmaaDoor
