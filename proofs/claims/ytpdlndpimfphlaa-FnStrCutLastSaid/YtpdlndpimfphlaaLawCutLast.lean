/- The law FnStrCutLast: the walk returns true. -/
import Derived.Test.YtpdlndpimfphlaaHash
import Derived.Test.YtpdlndpimfphlaaSpecAt
import Derived.Below
import Derived.WalkSmall
import Derived.KernelRfl
import Derived.IntWalk
import Derived.Laws.IdiomStrings
import Derived.OpenShut
import Derived.Outline
import Derived.Lib.Hide
import Derived.RegionTactic
import Derived.ChangeAlike
import Derived.Deep.QuietTactic
import Derived.BigQuiet
import Derived.Deep.RegionWith
import Derived.Deep.DeepMust
namespace Go.Proofs.Ytpdlndpimfphlaa
open Go.Shelf Go.RowKit Go.Lib

theorem lastOcc_lt (s sub : List UInt8) : ∀ k : Nat, lastOcc s sub k < k ∧ -1 ≤ lastOcc s sub k
  | 0 => ⟨by show (-1 : Int) < 0; decide, by show (-1 : Int) ≤ -1; decide⟩
  | k + 1 => by
    have ih := lastOcc_lt s sub k
    cases h : occAt s sub k with
    | true => rw [lastOcc_hit _ _ _ h]; omega
    | false => rw [lastOcc_miss _ _ _ h]; omega
theorem lastIndex_room (s sep : ByteArray) (h : 0 ≤ lastIndex s.data.toList sep.data.toList) : lastIndex s.data.toList sep.data.toList + sep.size ≤ s.size := by
  unfold lastIndex at *
  by_cases hl : sep.data.toList.length ≤ s.data.toList.length
  · rw [if_pos hl] at *
    have := (lastOcc_lt s.data.toList sep.data.toList (s.data.toList.length - sep.data.toList.length + 1)).1
    simp at hl this ⊢
    omega
  · rw [if_neg hl] at h; omega

set_option maxHeartbeats 800000 in
theorem cutLast_yes (s sep : ByteArray) (i : Nat) (hs : s.size < 4611686018427387904) (hi : lastIndex s.data.toList sep.data.toList = i) (hr : i + sep.size ≤ s.size) (w : World) :
    Calls Try.prog 56 #[.string s, .string sep] w fun e w' => e = .returned (.tuple #[.string (s.extract 0 i), .string (s.extract (i + sep.size) s.size), .bool true]) ∧ ∃ n, w' = w.drewN n := by
  have Hi := Lib.hid hi
  clear hi
  have h2 : ((i : Int) + sep.size).toNat = i + sep.size := by omega
  go_enter Try.func56, Try.ntmps56
  go_wp2_with (go_at_call 53; refine (strings_LastIndex _ _ hs _).mono ?_; rintro e w' ⟨rfl, rfl⟩; rw [Hi.out])
  go_quiet (fail)
  go_wp2
  go_ret3
  exact ⟨rfl, _, rfl⟩

theorem cutLast_no (s sep : ByteArray) (hs : s.size < 4611686018427387904) (hi : lastIndex s.data.toList sep.data.toList = -1) (w : World) :
    Calls Try.prog 56 #[.string s, .string sep] w fun e w' => e = .returned (.tuple #[.string s, .string ⟨#[]⟩, .bool false]) ∧ w = w' := by
  have Hi := Lib.hid hi
  clear hi
  go_enter Try.func56, Try.ntmps56
  go_wp2_with (go_at_call 53; refine (strings_LastIndex _ _ hs _).mono ?_; rintro e w' ⟨rfl, rfl⟩; rw [Hi.out])
  go_ret3
  exact ⟨rfl, rfl⟩
/-- both ways of the cut in one: what it returns -/
def cutL (s sep : ByteArray) : ByteArray × ByteArray × Bool :=
  if 0 ≤ lastIndex s.data.toList sep.data.toList then (s.extract 0 (lastIndex s.data.toList sep.data.toList).toNat, s.extract ((lastIndex s.data.toList sep.data.toList).toNat + sep.size) s.size, true) else (s, ⟨#[]⟩, false)

theorem lastIndex_neg (s sep : ByteArray) (h : ¬ 0 ≤ lastIndex s.data.toList sep.data.toList) : lastIndex s.data.toList sep.data.toList = -1 := by
  unfold lastIndex at *
  by_cases hl : sep.data.toList.length ≤ s.data.toList.length
  · rw [if_pos hl] at *
    have := (lastOcc_lt s.data.toList sep.data.toList (s.data.toList.length - sep.data.toList.length + 1)).2
    omega
  · rw [if_neg hl]

theorem cutLast_any (s sep : ByteArray) (hs : s.size < 4611686018427387904) (w : World) :
    Calls Try.prog 56 #[.string s, .string sep] w fun e w' => e = .returned (.tuple #[.string (cutL s sep).1, .string (cutL s sep).2.1, .bool (cutL s sep).2.2]) ∧ ∃ n, w' = w.drewN n := by
  by_cases h : 0 ≤ lastIndex s.data.toList sep.data.toList
  · have hr := lastIndex_room s sep h
    obtain ⟨i, hi⟩ := Int.eq_ofNat_of_zero_le h
    have e : cutL s sep = (s.extract 0 i, s.extract (i + sep.size) s.size, true) := by unfold cutL; rw [if_pos h, hi, Int.toNat_natCast]
    rw [e]
    exact cutLast_yes s sep i hs hi (by omega) w
  · have hi := lastIndex_neg s sep h
    have e : cutL s sep = (s, ⟨#[]⟩, false) := by unfold cutL; rw [if_neg h]
    rw [e]
    exact (cutLast_no s sep hs hi w).mono fun e w' ⟨h1, h2⟩ => ⟨h1, 0, h2.symm⟩

set_option maxHeartbeats 800000 in
theorem implCutLast (s sep b a : ByteArray) (f : Bool) (hs : s.size < 4611686018427387904) (hc : Hid (cutL s sep = (b, a, f))) (w : World) :
    Calls Try.prog 32 #[.string s, .string sep] w fun e w' => e = .returned (.agg #[.string b, .string a, .bool f]) ∧ Below w.heap.size w w' := by
  go_enter Try.func32, Try.ntmps32
  go_wp2_with (go_at_call 56; refine (cutLast_any _ _ hs _).mono ?_; rintro e w' ⟨rfl, n, rfl⟩; rw [hc.out])
  refine bodyPost_ret (v := .agg #[.string b, .string a, .bool f]) (by simp [results, Try.results32, go_sem]) rfl ⟨rfl, ?_⟩
  exact ((((below_drewN ((Below.refl _ _).alloc (Nat.le_refl _) _) n).setCell (by simp) _).setCell (by simp) _).setCell (by simp) _)
theorem cut_ab : Hid (cutL ⟨#[97, 98]⟩ ⟨#[98]⟩ = (⟨#[97]⟩, ⟨#[]⟩, true)) := by show _ = _; decide

set_option maxHeartbeats 800000 in
theorem walk_FnStrCutLast (a0 a1 : ByteArray) (w : World) (w0 : a0.size ≤ maxLen) (w1 : a1.size ≤ maxLen) :
    Calls Try.prog 11 #[.string a0, .string a1] w fun e w' => e = .returned (.bool true) ∧ Below w.heap.size w w' := by
  unfold maxLen at w0 w1
  by_cases h0 : 2147483647 < a0.size
  · go_enter Try.func11, Try.ntmps11
    go_wp2
    go_ret
    exact ⟨rfl, Below.refl _ _⟩
  by_cases h1 : 2147483647 < a1.size
  · go_enter Try.func11, Try.ntmps11
    go_wp2
    go_ret
    exact ⟨rfl, Below.refl _ _⟩
  by_cases h : 0 ≤ lastIndex a0.data.toList a1.data.toList
  · have hr := lastIndex_room a0 a1 h
    obtain ⟨i, hi⟩ := Int.eq_ofNat_of_zero_le h
    have e : Hid (cutL a0 a1 = (a0.extract 0 i, a0.extract (i + a1.size) a0.size, true)) := by show _ = _; unfold cutL; rw [if_pos h, hi, Int.toNat_natCast]
    have hr2 : i + a1.size ≤ a0.size := by omega
    have Hi := Lib.hid hi
    clear hi h hr
    have h2 : ((i : Int) + a1.size).toNat = i + a1.size := by omega
    go_enter Try.func11, Try.ntmps11
    go_wp2_with (go_at_call 16; refine (seLast _ _ (by omega) (by omega) _).mono ?_; rintro e w' ⟨rfl, rfl⟩; rw [Hi.out])
    have hwr : IntKind.i64.wrap ((i : Int) + a1.size) = (i : Int) + a1.size := IntWalk.i64_in _ (by omega)
    have h3 : (i : Int) + a1.size ≤ a0.size := by omega
    have h4 : (0 : Int) ≤ (i : Int) + a1.size := by omega
    go_region_with (go_at_call 32; refine (implCutLast _ _ _ _ _ (by omega) e _).mono ?_; rintro e w' ⟨rfl, hb⟩)
    all_goals (go_wp2_with fail; go_ret; exact ⟨rfl, (Below.refl _ _).drew.trans hb⟩)
  · have hi := lastIndex_neg a0 a1 h
    have e : Hid (cutL a0 a1 = (a0, ⟨#[]⟩, false)) := by show _ = _; unfold cutL; rw [if_neg h]
    have Hi := Lib.hid hi
    clear hi h
    go_enter Try.func11, Try.ntmps11
    go_wp2_with (go_at_call 16; refine (seLast _ _ (by omega) (by omega) _).mono ?_; rintro e w' ⟨rfl, rfl⟩; rw [Hi.out])
    refine (implCutLast _ _ _ _ _ (by omega) e _).mono ?_
    rintro e w2 ⟨rfl, hb1⟩
    go_wp2_with fail
    refine (implCutLast _ _ _ _ _ (by decide) cut_ab _).mono ?_
    rintro e w3 ⟨rfl, hb2⟩
    have hfd : ∀ w, (Instr.field 35 (.agg #[.string ⟨#[97]⟩, .string ⟨#[]⟩, .bool true]) 2).run Try.prog w = .ok (.bool true) w := fun _ => by kernel_rfl
    go_wp2_with fail
    go_ret
    exact ⟨rfl, hb1.trans (hb2.mono hb1.size)⟩
end Go.Proofs.Ytpdlndpimfphlaa
