/- stringslite.Index at a text of whatever length: the first place; strings' IndexByte. -/
import Derived.Test.YthnbifkcbeldmaaDoorHash
import Derived.Test.YthnbifkcbeldmaaDoorByteFind
import Derived.Lib.IndexLaws
import Derived.Lib.IndexBytes
namespace Go.Proofs.YthnbifkcbeldmaaDoor
open Go.Shelf Go.RowKit Go.Lib
set_option linter.unusedVariables false

theorem slIndexByte (s : ByteArray) (c : Int) (hs : s.size < 4611686018427387904) (h0 : 0 ≤ c) (h1 : c ≤ 255) (w : World) :
    Calls Tryd.prog 138 #[.string s, .int .u8 c] w fun e w' => e = .returned (.int .i64 (Lib.indexByte s.data.toList c.toNat.toUInt8)) ∧ w' = w := by
  have e : index s.data.toList (Go.Proofs.YthnbifkcbeldmaaDoor.b1 c).data.toList = Lib.indexByte s.data.toList c.toNat.toUInt8 := Lib.index_one _ _
  rw [← e]
  clear e
  go_enter Tryd.func138, Tryd.ntmps138
  go_wp2_with (go_at_call 105; refine (indexByteStr s c hs h0 h1 _).mono ?_; rintro e w' ⟨rfl, rfl⟩)
  go_ret
  exact ⟨rfl, rfl⟩

theorem byte_le (x : UInt8) : (x.toNat : Int) ≤ 255 := by have := x.toNat_lt; omega
set_option maxHeartbeats 8000000 in
set_option maxRecDepth 100000 in
theorem strIndex (s sub : ByteArray) (hs : s.size < 1152921504606846976) (hp : sub.size < 1152921504606846976) (w : World) :
    Calls Tryd.prog 120 #[.string s, .string sub] w fun e w' => e = .returned (.int .i64 (Lib.index s.data.toList sub.data.toList)) ∧ w' = w := by
  by_cases h0 : sub.size = 0
  · have t0 : ((sub.size : Int) == 0) = true := beq_iff_eq.2 (by omega)
    have e : Hid (Lib.index s.data.toList sub.data.toList = 0) := Lib.zero s sub (.inl t0)
    clear h0
    go_enter Tryd.func120, Tryd.ntmps120
    go_wp2_with fail
    go_ret
    rw [e.out]
    exact ⟨rfl, rfl⟩
  have t0 : ((sub.size : Int) == 0) = false := beq_eq_false_iff_ne.2 (by omega)
  by_cases hq : (sub.toList == s.toList) = true
  · have e : Hid (Lib.index s.data.toList sub.data.toList = 0) := Lib.zero s sub (.inr hq)
    clear h0
    go_enter Tryd.func120, Tryd.ntmps120
    go_wp2_with fail
    go_ret
    rw [e.out]
    exact ⟨rfl, rfl⟩
  have hq' : (sub.toList == s.toList) = false := by simpa using hq
  clear hq
  by_cases h1 : sub.size = 1
  · have t1 : ((sub.size : Int) == 1) = true := beq_iff_eq.2 (by omega)
    have n0 : 0 < sub.size := by omega
    have e : Hid (Lib.index s.data.toList sub.data.toList = Lib.indexByte s.data.toList ((sub[0]'n0).toNat : Int).toNat.toUInt8) := Lib.one s sub h1
    have hb := byte_le (sub[0]'n0)
    have i0 : (0 : Int) < sub.size := by omega
    clear h0 h1
    go_enter Tryd.func120, Tryd.ntmps120
    go_wp2_with (go_at_call 138; refine (slIndexByte _ _ (by omega) (by omega) (by omega) _).mono ?_; rintro e w' ⟨rfl, rfl⟩)
    go_ret
    rw [e.out]
    exact ⟨by first | rfl | simp, rfl⟩
  have t1 : ((sub.size : Int) == 1) = false := beq_eq_false_iff_ne.2 (by omega)
  by_cases hl : s.size ≤ sub.size
  · have e := Lib.hid (show Lib.index s.data.toList sub.data.toList = -1 from Lib.long s sub hl hq')
    have t2 : decide ((s.size : Int) ≤ sub.size) = true := by simpa using hl
    clear h0 h1
    go_enter Tryd.func120, Tryd.ntmps120
    go_wp2_with fail
    go_ret
    rw [e.out]
    exact ⟨rfl, rfl⟩
  have t2 : decide ((s.size : Int) ≤ sub.size) = false := by simpa using hl
  have hn2 : 2 ≤ sub.size := by omega
  have hb0 := byte_le (sub[0]'(by omega))
  have ne0 : ¬ sub = ByteArray.empty := fun h => by rw [h] at hn2; simp at hn2
  have ne1 : decide (sub = ByteArray.empty) = false := by simpa using ne0
  have ne2 : decide ((sub.size : Int) ≤ 0) = false := by simp; omega
  have ne3 : 0 < sub.size := by omega
  have ne4 : (1 : Int) < sub.size := by omega
  clear h0 h1
  go_enter Tryd.func120, Tryd.ntmps120
  go_wp2_with fail
  go_loop [8, 10] (fun i f => ∃ k fl : Nat, i = .int .i64 k ∧ f = .int .i64 fl ∧ k ≤ s.size - sub.size + 1 ∧ fl ≤ k ∧ Lib.NoOcc s.data.toList sub.data.toList k) (fun i _ => match i with | .int _ q => s.size + 1 - q.toNat | _ => 0)
  case atStart => exact ⟨0, 0, rfl, rfl, Nat.zero_le _, Nat.le_refl _, Lib.NoOcc.zero _ _⟩
  case round =>
    obtain ⟨k, fl, rfl, rfl, hk, hfl, hno⟩ := hrel
    by_cases hkt : (k : Int) < ↑s.size - ↑sub.size + 1
    · have a1 : (0 : Int) ≤ ↑k + 1 := by omega
      have a2 : (↑k + 1 : Int) ≤ ↑s.size - ↑sub.size + 1 := by omega
      have a3 : (↑s.size - ↑sub.size + 1 : Int) ≤ ↑s.size := by omega
      have b1 : (0 : Int) ≤ ↑k := by omega
      have b2 : (↑k : Int) ≤ ↑k + ↑sub.size := by omega
      have b3 : (↑k + ↑sub.size : Int) ≤ ↑s.size := by omega
      go_wp2_with (first
        | (go_at_call 138; refine (slIndexByte _ _ (by rw [ByteArray.size_extract]; omega) (by omega) (by omega) _).mono ?_; rintro e w' ⟨rfl, rfl⟩
           rcases Lib.indexByte_piece s (k + 1) (s.size - sub.size + 1) (↑sub[0].toNat : Int).toNat.toUInt8 with hib | ⟨o, hib, hol⟩ <;>
             first
               | (have hno' : Lib.NoOccB s sub (k + (o + 1)) := Lib.skip_some s sub k o hn2 (by omega) hno (by assumption) hib
                  rw [hib])
               | rw [hib])
        | (go_at_call 141; refine (indexRK _ _ (by omega) (by rw [ByteArray.size_extract]; omega) (by rw [ByteArray.size_extract]; omega) _).mono ?_; rintro e w' ⟨rfl, rfl⟩
           generalize hr : Lib.index (ByteArray.extract _ _ _).data.toList _ = r
           have hr1 : -1 ≤ r := hr ▸ Lib.index_ge _ _
           have hr2 : r ≤ ↑s.size := hr ▸ Lib.index_tail_le _ _ _)
        | (rw [run_slice_string _ 9 s .i64 .i64 _ _ Tryd.underlying9 (by omega) (by omega) (by omega)]
           simp only [Result.andThen]
           rw [Oper.upon_value]))
      all_goals first
        | (go_ret; refine ⟨?_, rfl⟩; rw [show Lib.index s.data.toList sub.data.toList = -1 from Lib.skip_none s sub k hn2 (by omega) (by omega) hno (by assumption) hib]; first | rfl | (push_cast; rfl) | (refine congrArg Ending.returned (congrArg (Value.int IntKind.i64) ?_); first | rfl | (push_cast; omega) | omega | simp))
        | (go_ret; refine ⟨?_, rfl⟩; rw [show Lib.index s.data.toList sub.data.toList = ((k + (o + 1) : Nat) : Int) from Lib.hit s sub (k + (o + 1)) hno' (by omega) (by assumption)]; first | rfl | (push_cast; rfl) | (refine congrArg Ending.returned (congrArg (Value.int IntKind.i64) ?_); first | rfl | (push_cast; omega) | omega | simp))
        | (have hn1 : Lib.NoOccB s sub (k + (o + 1) + 1) := by first | exact Lib.miss_piece s sub (k + (o + 1)) hno' (by omega) (by assumption) | exact Lib.miss_second s sub (k + (o + 1)) hno' hn2 (by omega) (by assumption)
           have h0r : 0 ≤ r := by assumption
           go_ret; refine ⟨?_, rfl⟩; rw [show Lib.index s.data.toList sub.data.toList = r + ((k + (o + 1) + 1 : Nat) : Int) from Lib.fb_pos s sub (k + (o + 1) + 1) hn1 (by omega) hr h0r]; first | rfl | (push_cast; rfl) | (refine congrArg Ending.returned (congrArg (Value.int IntKind.i64) ?_); first | rfl | (push_cast; omega) | omega | simp))
        | (have hn1 : Lib.NoOccB s sub (k + (o + 1) + 1) := by first | exact Lib.miss_piece s sub (k + (o + 1)) hno' (by omega) (by assumption) | exact Lib.miss_second s sub (k + (o + 1)) hno' hn2 (by omega) (by assumption)
           have h0r : r < 0 := by assumption
           go_ret; refine ⟨?_, rfl⟩; rw [show Lib.index s.data.toList sub.data.toList = -1 from Lib.fb_neg s sub (k + (o + 1) + 1) hn1 (by omega) hr h0r hr1]; first | rfl | (push_cast; rfl) | (refine congrArg Ending.returned (congrArg (Value.int IntKind.i64) ?_); first | rfl | (push_cast; omega) | omega | simp))
        | (refine ⟨⟨k + (o + 1) + 1, fl + 1, by push_cast; rfl, by push_cast; rfl, by omega, by omega, ?_⟩, ?_⟩
           · first | exact Lib.miss_piece s sub (k + (o + 1)) hno' (by omega) (by assumption) | exact Lib.miss_second s sub (k + (o + 1)) hno' hn2 (by omega) (by assumption)
           · show s.size + 1 - (_ : Int).toNat < s.size + 1 - (_ : Int).toNat
             omega)
        | (go_ret; refine ⟨?_, rfl⟩; rw [show Lib.index s.data.toList sub.data.toList = ((k : Nat) : Int) from Lib.hit s sub (k) hno (by omega) (by assumption)]; first | rfl | (push_cast; rfl) | (refine congrArg Ending.returned (congrArg (Value.int IntKind.i64) ?_); first | rfl | (push_cast; omega) | omega | simp))
        | (have hn1 : Lib.NoOccB s sub (k + 1) := by first | exact Lib.miss_piece s sub (k) hno (by omega) (by assumption) | exact Lib.miss_second s sub (k) hno hn2 (by omega) (by assumption)
           have h0r : 0 ≤ r := by assumption
           go_ret; refine ⟨?_, rfl⟩; rw [show Lib.index s.data.toList sub.data.toList = r + ((k + 1 : Nat) : Int) from Lib.fb_pos s sub (k + 1) hn1 (by omega) hr h0r]; first | rfl | (push_cast; rfl) | (refine congrArg Ending.returned (congrArg (Value.int IntKind.i64) ?_); first | rfl | (push_cast; omega) | omega | simp))
        | (have hn1 : Lib.NoOccB s sub (k + 1) := by first | exact Lib.miss_piece s sub (k) hno (by omega) (by assumption) | exact Lib.miss_second s sub (k) hno hn2 (by omega) (by assumption)
           have h0r : r < 0 := by assumption
           go_ret; refine ⟨?_, rfl⟩; rw [show Lib.index s.data.toList sub.data.toList = -1 from Lib.fb_neg s sub (k + 1) hn1 (by omega) hr h0r hr1]; first | rfl | (push_cast; rfl) | (refine congrArg Ending.returned (congrArg (Value.int IntKind.i64) ?_); first | rfl | (push_cast; omega) | omega | simp))
        | (refine ⟨⟨k + 1, fl + 1, by push_cast; rfl, by push_cast; rfl, by omega, by omega, ?_⟩, ?_⟩
           · first | exact Lib.miss_piece s sub (k) hno (by omega) (by assumption) | exact Lib.miss_second s sub (k) hno hn2 (by omega) (by assumption)
           · show s.size + 1 - (_ : Int).toNat < s.size + 1 - (_ : Int).toNat
             omega)
    · go_wp2
      go_ret
      refine ⟨?_, rfl⟩
      rw [show Lib.index s.data.toList sub.data.toList = -1 from Lib.past s sub k hno (by omega) (by omega)]
      first | rfl | (push_cast; rfl) | (refine congrArg Ending.returned (congrArg (Value.int IntKind.i64) ?_); first | rfl | (push_cast; omega) | omega | simp)
end Go.Proofs.YthnbifkcbeldmaaDoor
