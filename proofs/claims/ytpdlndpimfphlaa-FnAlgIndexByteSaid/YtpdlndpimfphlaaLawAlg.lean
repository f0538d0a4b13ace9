/- The law FnAlgIndexByte: the walk returns true. -/
import Derived.Test.YtpdlndpimfphlaaLawRK
import Derived.OpenShut
import Derived.Deep.RegionWith
import Derived.Deep.DeepCutAuto
namespace Go.Proofs.Ytpdlndpimfphlaa
open Go.RowKit Go.Lib
set_option linter.unusedVariables false

theorem cell_a (w : World) (v : Value) (t : TypeId) : (w.alloc (.cells #[v] t)).drew.cell? ⟨w.heap.size, 0, none⟩ = some v := World.cell?_alloc_mark w #[v] t _ 0
theorem cell_b (w : World) (v : Value) (t : TypeId) (o : Obj) : ((w.alloc (.cells #[v] t)).alloc o).drew.cell? ⟨w.heap.size, 0, none⟩ = some v := Lib.cell?_alloc_marked o (World.cell?_alloc_mark w #[v] t _ 0)
theorem cell_c (w : World) (v : Value) (t : TypeId) (o : Obj) : ((w.alloc o).alloc (.cells #[v] t)).drew.cell? ⟨w.heap.size + 1, 0, none⟩ = some v := by
  have := World.cell?_alloc_mark (w.alloc o) #[v] t (0, 0) 0
  have e : (w.alloc o).heap.size = w.heap.size + 1 := by simp
  rw [e] at this
  exact this

set_option maxHeartbeats 4000000 in
theorem walk_FnAlgIndexByte (a0 : ByteArray) (a1 : Int) (w : World) (w0 : a0.size ≤ maxLen) (w1 : (Lit.int .u8 a1).wf = true) :
    Calls Try.prog 8 #[.string a0, .int .u8 a1] w fun e w' => e = .returned (.bool true) ∧ Below w.heap.size w w' := by
  unfold maxLen at w0
  by_cases h0 : 2147483647 < a0.size
  · go_enter Try.func8, Try.ntmps8
    go_wp2
    go_ret
    exact ⟨rfl, Below.refl _ _⟩
  obtain ⟨hb0, hb1⟩ := bounds_u8 w1
  have ca := fun w : World => conv_at a1 hb0 hb1 _ _ (cell_a w (.int .u8 a1) 5)
  have cb := fun (w : World) (o : Obj) => conv_at a1 hb0 hb1 _ _ (cell_b w (.int .u8 a1) 5 o)
  have cc := fun (w : World) (o : Obj) => conv_at a1 hb0 hb1 _ _ (cell_c w (.int .u8 a1) 5 o)
  have hbs : (Go.Proofs.Ytpdlndpimfphlaa.b1 a1).size < 4611686018427387904 := by rw [b1_size]; decide
  have hcv := hconv
  have hab : (index [97, 98] (Go.Proofs.Ytpdlndpimfphlaa.b1 98).data.toList == 1) = true := by decide
  go_enter Try.func8, Try.ntmps8
  go_upto_region 3 with fail
  go_cut [5, 6] (fun s5 s6 wx => s5 = .int .i64 (index a0.data.toList (Go.Proofs.Ytpdlndpimfphlaa.b1 a1).data.toList) ∧ s6 = .int .i64 (lastIndex a0.data.toList (Go.Proofs.Ytpdlndpimfphlaa.b1 a1).data.toList) ∧ Below w.heap.size w wx)
  case first =>
    go_region_with (first | (go_at_call 24; refine (seFirst _ _ (by omega) hbs _).mono ?_; rintro e w' ⟨rfl, rfl⟩) | (go_at_call 16; refine (seLast _ _ (by omega) hbs _).mono ?_; rintro e w' ⟨rfl, rfl⟩))
    all_goals (go_wp2_with fail; go_meet; exact ⟨rfl, rfl, (((Below.refl _ _).alloc (Nat.le_refl _) _).alloc (by simp) _).drew⟩)
  case rest =>
    obtain ⟨rfl, rfl, hb⟩ := hcut
    clear ca cb cc
    go_wp2_with fail
    refine (implAlgIndexByte _ _ _ a0 a1 (by omega) hb0 hb1 _ ?_).mono ?_
    · exact (Row.new _ _ _ _ _).drew
    rintro e w3 ⟨rfl, hb'⟩
    have hb3 := hb.trans ((below_conv1 _ _ _ hb').mono hb.size)
    clear hb' hb
    go_wp2_with fail
    refine (implAlgIndexByteString a0 a1 (by omega) hb0 hb1 _).mono ?_
    rintro e w' ⟨rfl, rfl⟩
    go_wp2_with fail
    refine (implAlgLastIndexByte _ _ _ a0 a1 (by omega) hb0 hb1 _ ?_).mono ?_
    · exact (Row.new _ _ _ _ _).drew
    rintro e w4 ⟨rfl, hb'⟩
    have hb4 := hb3.trans ((below_conv1 _ _ _ hb').mono hb3.size)
    clear hb' hb3
    go_wp2_with fail
    refine (implAlgLastIndexByteString a0 a1 (by omega) hb0 hb1 _).mono ?_
    rintro e w' ⟨rfl, rfl⟩
    go_wp2_with fail
    refine (implAlgIndexByteString _ 98 (by decide) (by decide) (by decide) _).mono ?_
    rintro e w' ⟨rfl, rfl⟩
    go_wp2_with fail
    go_ret
    exact ⟨rfl, hb4⟩
end Go.Proofs.Ytpdlndpimfphlaa
