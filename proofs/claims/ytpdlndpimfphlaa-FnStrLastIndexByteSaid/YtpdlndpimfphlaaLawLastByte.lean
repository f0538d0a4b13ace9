/- The law FnStrLastIndexByte: the walk returns true. -/
import Derived.Test.YtpdlndpimfphlaaHash
import Derived.Test.YtpdlndpimfphlaaSpecAt
import Derived.Below
import Derived.WalkSmall
import Derived.Laws.IdiomStrings
import Derived.OpenShut
import Derived.Outline
import Derived.Lib.Hide
import Derived.RegionTactic
import Derived.ChangeAlike
import Derived.Deep.QuietTactic
import Derived.BigQuiet
import Derived.Deep.RegionWith
import Derived.Deep.DeepMust
namespace Go.Proofs.Ytpdlndpimfphlaa
open Go.Shelf Go.RowKit Go.Lib

/-- a byte's own text -/
def b1 (c : Int) : ByteArray := ⟨#[c.toNat.toUInt8]⟩
theorem b1_size (c : Int) : (b1 c).size = 1 := rfl
theorem lastByte_eq (s : ByteArray) (c : Int) (h0 : 0 ≤ c) (h1 : c ≤ 255) : lastIndexByte s c = lastIndex s.data.toList (b1 c).data.toList := by
  have := LastIndex.one s (b1 c) rfl
  rw [← this]
  congr 1
  show c = ((c.toNat.toUInt8).toNat : Int)
  simp; omega

theorem conv1 (c : Int) (h0 : 0 ≤ c) (h1 : c ≤ 255) (w : World) :
    (convert 24 9 (.slice (some ⟨w.heap.size, 0, none⟩) 1 1)).run Try.prog (w.alloc (.cells #[.int .u8 c] 5)).drew = .ok (.string (b1 c)) (w.alloc (.cells #[.int .u8 c] 5)).drew := by
  have := run_convert_bytes_back (P := Try.prog) (w.alloc (.cells #[.int .u8 c] 5)).drew 24 9 5 ⟨w.heap.size, 0, none⟩ 1 [c.toNat.toUInt8] Try.underlying24 Try.underlying5 Try.underlying9 (fun j hj => by
    have hj0 : j = 0 := by simpa using hj
    subst hj0
    have e : ((c.toNat.toUInt8).toNat : Int) = c := by simp; omega
    show _ = some (Value.int .u8 ((c.toNat.toUInt8).toNat : Int))
    rw [e]
    exact World.cell?_alloc_mark w #[.int .u8 c] 5 _ 0)
  exact this

theorem implStrLastIndexByte (s : ByteArray) (c : Int) (hs : s.size < 4611686018427387904) (h0 : 0 ≤ c) (h1 : c ≤ 255) (w : World) :
    Calls Try.prog 15 #[.string s, .int .u8 c] w fun e w' => e = .returned (.int .i64 (lastIndex s.data.toList (b1 c).data.toList)) ∧ w = w' := by
  rw [← lastByte_eq s c h0 h1]
  go_enter Try.func15, Try.ntmps15
  go_wp2_with (first | (go_at_call 52; refine (lastByteStr _ _ hs _).mono ?_; rintro e w' ⟨rfl, rfl⟩) | go_in)
  go_ret
  exact ⟨rfl, rfl⟩

set_option maxHeartbeats 800000 in
theorem walk_FnStrLastIndexByte (a0 : ByteArray) (a1 : Int) (w : World) (w0 : a0.size ≤ maxLen) (w1 : (Lit.int .u8 a1).wf = true) :
    Calls Try.prog 3 #[.string a0, .int .u8 a1] w fun e w' => e = .returned (.bool true) ∧ Below w.heap.size w w' := by
  unfold maxLen at w0
  by_cases h0 : 2147483647 < a0.size
  · go_enter Try.func3, Try.ntmps3
    go_wp2
    go_ret
    exact ⟨rfl, Below.refl _ _⟩
  have hb := bounds_u8 w1
  obtain ⟨hb0, hb1⟩ := hb
  have hcv := conv1 a1 hb0 hb1
  have hab : (lastIndex [97, 98] (b1 98).data.toList == 1) = true := by decide
  have hbs : (b1 a1).size < 4611686018427387904 := by rw [b1_size]; decide
  go_enter Try.func3, Try.ntmps3
  go_wp2_with fail
  go_region_with (first | (go_at_call 15; refine (implStrLastIndexByte _ _ (by first | omega | decide) (by omega) (by omega) _).mono ?_; rintro e w' ⟨rfl, rfl⟩) | (go_at_call 16; refine (seLast _ _ (by omega) hbs _).mono ?_; rintro e w' ⟨rfl, rfl⟩))
  all_goals (go_wp2_with fail; go_ret; exact ⟨rfl, ((Below.refl _ _).alloc (Nat.le_refl _) _).drew⟩)
end Go.Proofs.Ytpdlndpimfphlaa
