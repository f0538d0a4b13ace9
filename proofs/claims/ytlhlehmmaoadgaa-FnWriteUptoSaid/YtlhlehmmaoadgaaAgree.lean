/- Two worlds with the same blocks in a range. -/
import Derived.Below
import Derived.Lib.Builder
namespace Go.Proofs.Ytlhlehmmaoadgaa
open Go.RowKit Go.Lib
/-- two worlds have the same blocks from lo on, below B -/
def AgreeOn (lo B : Nat) (w w' : World) : Prop := ∀ x, lo ≤ x → x < B → w'.heap[x]? = w.heap[x]?
theorem AgreeOn.cell {lo B : Nat} {w w' : World} (h : AgreeOn lo B w w') {x o : Nat} (h1 : lo ≤ x) (h2 : x < B) : w'.cell? ⟨x, o, none⟩ = w.cell? ⟨x, o, none⟩ := World.cell?_of_block (a := ⟨x, o, none⟩) (h x h1 h2)
theorem AgreeOn.frozen {lo B : Nat} {w w' : World} (h : AgreeOn lo B w w') {x o : Nat} (h1 : lo ≤ x) (h2 : x < B) : w'.frozen? ⟨x, o, none⟩ = w.frozen? ⟨x, o, none⟩ := World.frozen?_of_block (a := ⟨x, o, none⟩) (h x h1 h2)
end Go.Proofs.Ytlhlehmmaoadgaa
