/- spec.SeReplaced: what it returns. -/
import Derived.Test.YthnbifkcbeldmaaDoorRj
import Derived.Test.YthnbifkcbeldmaaDoorApp
namespace Go.Proofs.YthnbifkcbeldmaaDoor
open Go.RowKit Go.Lib
set_option linter.unusedVariables false
/-- the loops of SeReplaced -/
def SrRel (s new : ByteArray) (L : Nat) (bs : List Nat) (tot : List UInt8) (v9 v10 vi : Value) : Prop :=
  ∃ (j f : Nat) (out : ByteArray), vi = .int .i64 (j : Int) ∧ v10 = .int .i64 (f : Int) ∧ v9 = .string out ∧ j ≤ bs.length ∧ okB s.size L (bs.drop j) f ∧ f ≤ s.size ∧ out.data.toList ++ rj s.data.toList new.data.toList L (bs.drop j) f = tot
theorem srRel_next {s new : ByteArray} {L : Nat} {bs : List Nat} {tot : List UInt8} {j f : Nat} {out : ByteArray} (hj : j < bs.length) (hok : okB s.size L (bs.drop j) f) (he : out.data.toList ++ rj s.data.toList new.data.toList L (bs.drop j) f = tot) :
    SrRel s new L bs tot (.string (out ++ (s.extract f bs[j] ++ new))) (.int .i64 ((bs[j] + L : Nat) : Int)) (.int .i64 ((j + 1 : Nat) : Int)) := by
  rw [List.drop_eq_getElem_cons hj] at hok he
  obtain ⟨h1, h2, h3⟩ := hok
  refine ⟨j + 1, bs[j] + L, _, rfl, rfl, rfl, by omega, h3, h2, ?_⟩
  rw [← he, rj, ByteArray.data_append, ByteArray.data_append, Array.toList_append, Array.toList_append, Lib.extract_data]
  simp only [List.append_assoc]
theorem sr_room {s new : ByteArray} {L : Nat} {bs : List Nat} {tot : List UInt8} {j f : Nat} {out : ByteArray} (hj : j < bs.length) (hok : okB s.size L (bs.drop j) f) (he : out.data.toList ++ rj s.data.toList new.data.toList L (bs.drop j) f = tot) :
    f ≤ bs[j] ∧ bs[j] + L ≤ s.size ∧ out.size + ((s.extract f bs[j]).size + new.size) ≤ tot.length := by
  rw [List.drop_eq_getElem_cons hj] at hok he
  obtain ⟨h1, h2, h3⟩ := hok
  refine ⟨h1, h2, ?_⟩
  rw [← he, rj, List.length_append, List.length_append, List.length_append, List.length_take, List.length_drop, ← Lib.size_eq, ← Lib.size_eq, ← Lib.size_eq, ByteArray.size_extract]
  omega
theorem sr_end {s new : ByteArray} {L : Nat} {bs : List Nat} {tot : List UInt8} {j f : Nat} {out : ByteArray} (hj : ¬ j < bs.length) (he : out.data.toList ++ rj s.data.toList new.data.toList L (bs.drop j) f = tot) :
    (out ++ s.extract f s.size) = ⟨tot.toArray⟩ ∧ out.size + (s.extract f s.size).size = tot.length := by
  rw [List.drop_eq_nil_of_le (by omega), rj] at he
  have h1 : (out ++ s.extract f s.size).data.toList = tot := by
    rw [← he, ByteArray.data_append, Array.toList_append, Lib.extract_to_end]
  refine ⟨by rw [← h1], ?_⟩
  rw [← h1, ← Lib.size_eq, ByteArray.size_append]
set_option maxHeartbeats 3200000 in
set_option maxRecDepth 100000 in
theorem seReplaced_text (s old new : ByteArray) (n : Int) (hs : s.size ≤ 4294967296) (hp : old.size ≤ 4294967296) (hn : new.size ≤ 4294967296) (h1 : 1 ≤ old.size) (hbig : (seRepl s old new n).length ≤ 140737488355328) (w : World) :
    Calls Tryd.prog 23 #[.string s, .string old, .string new, .int .i64 n] w fun e w' => e = .returned (.string (seReplB s old new n)) ∧ Below w.heap.size w w' := by
  have he : old.toList.isEmpty = false := by rw [empty_of]; exact decide_eq_false (by omega)
  by_cases h0 : n = 0
  · have z0 : (n == 0) = true := by rw [h0]; rfl
    have E := Lib.hid (seReplB_of (s := s) (old := old) (new := new) (n := n) (r := s) (by rw [h0, seRepl_zero]))
    clear h0
    go_enter Tryd.func23, Tryd.ntmps23
    go_wp2_with fail
    go_ret
    rw [← E.out]
    exact ⟨rfl, Below.refl _ _⟩
  have z0 : (n == 0) = false := beq_eq_false_iff_ne.2 h0
  obtain ⟨tot, ht⟩ : ∃ tot, seRepl s old new n = tot := ⟨_, rfl⟩
  have hpl : places s old n = breaks s old n := by unfold places; rw [if_neg (by omega)]
  have HOK := Lib.hid (okB_breaks s old n)
  have HT := Lib.hid (show rj s.data.toList new.data.toList old.size (breaks s old n) 0 = tot by rw [← ht, ← hpl]; rfl)
  have HR := Lib.hid (show seReplB s old new n = ⟨tot.toArray⟩ by unfold seReplB; rw [ht])
  have hbl := breaks_len s old n
  rw [ht] at hbig
  rw [HR.out]
  clear h0 hpl ht HR
  go_enter Tryd.func23, Tryd.ntmps23
  go_wp2_with (go_at_call 51; refine (seBreaks s old n hs hp _).mono ?_; rintro e w2 ⟨v2, rfl, hown2, hB2⟩; obtain ⟨a2, cap2, rfl, hc2, hr2⟩ := own_ints hown2; have HRR := Lib.hid hr2; clear hr2 hown2)
  generalize breaks s old n = bs at *
  go_loop [9, 10, 14, 55] (fun v9 v10 _ vi => SrRel s new old.size bs tot v9 v10 vi) (fun _ _ _ vi => bs.length - (RowKit.intOf vi).toNat)
  case atStart => exact ⟨0, 0, ⟨#[]⟩, rfl, rfl, rfl, Nat.zero_le _, HOK.out, Nat.zero_le _, HT.out⟩
  case round =>
    obtain ⟨j, f, out, rfl, rfl, rfl, hj, hok, hf, htot⟩ := hrel
    by_cases hk : j < bs.length
    · obtain ⟨g, rfl, hg, hcell⟩ := HRR.out j hk
      obtain ⟨o1, o2, o3⟩ := sr_room hk hok htot
      have NX := Lib.hid (srRel_next hk hok htot)
      have hkI : (j : Int) < bs.length := by omega
      have j1 : (f : Int) ≤ bs[j] := by omega
      have j2 : (bs[j] : Int) ≤ s.size := by omega
      have ad1 : ∀ w : World, (Op.stringOp .add (s.extract f bs[j]) new).run Tryd.prog w = .ok (.string (s.extract f bs[j] ++ new)) w := fun w => run_string_add_sum (P := Tryd.prog) w _ _ (by omega)
      have ad2 : ∀ w : World, (Op.stringOp .add out (s.extract f bs[j] ++ new)).run Tryd.prog w = .ok (.string (out ++ (s.extract f bs[j] ++ new))) w := fun w => run_string_add_sum (P := Tryd.prog) w _ _ (by rw [ByteArray.size_append]; omega)
      clear hok htot o3
      go_wp2_with fail
      go_round
      case rel => exact NX.out
      case measure => simp [RowKit.intOf]; omega
    · have hkI : ¬ (j : Int) < bs.length := by omega
      obtain ⟨e1, e2⟩ := sr_end hk htot
      have E := Lib.hid e1
      have ad1 : ∀ w : World, (Op.stringOp .add out (s.extract f s.size)).run Tryd.prog w = .ok (.string (out ++ s.extract f s.size)) w := fun w => run_string_add_sum (P := Tryd.prog) w _ _ (by omega)
      clear hok htot e1 e2
      go_wp2_with fail
      go_ret
      rw [← E.out]
      exact ⟨rfl, hB2⟩
/-- 'n--' so many times -/
theorem dec_wrap (n : Int) (j : Nat) (h1 : -9223372036854775808 ≤ n) (h2 : n ≤ 9223372036854775807) (hj : j ≤ 4294967300) : wrap64 (wrap64 (n - j) - 1) = wrap64 (n - (j + 1 : Nat)) := by
  unfold wrap64
  omega
theorem dec_zero (n : Int) (j : Nat) (h1 : -9223372036854775808 ≤ n) (h2 : n ≤ 9223372036854775807) (hj : j ≤ 4294967300) : wrap64 (n - j) = 0 ↔ n = j := by
  unfold wrap64
  omega
def SrRelE (s new : ByteArray) (bs : List Nat) (n : Int) (tot : List UInt8) (v3 v9 v10 vi : Value) : Prop :=
  ∃ j : Nat, vi = .int .i64 (j : Int) ∧ v3 = .int .i64 (wrap64 (n - j)) ∧ (n < 0 ∨ (j : Int) ≤ n) ∧ SrRel s new 0 (cutMost n bs) tot v9 v10 vi
theorem cut_more {n : Int} {bs : List Nat} {j : Nat} (hj : j < bs.length) (h : n < 0 ∨ (j : Int) ≤ n) (hne : ¬ n = j) : j < (cutMost n bs).length ∧ ∀ h2 : j < (cutMost n bs).length, (cutMost n bs)[j] = bs[j] := by
  rw [cut_many]
  unfold howMany
  by_cases hc : n < 0 ∨ (bs.length : Int) < n
  · rw [if_pos hc, List.take_length]
    exact ⟨hj, fun _ => rfl⟩
  · rw [if_neg hc]
    refine ⟨by rw [List.length_take]; omega, fun h2 => by simp⟩
theorem cut_done {n : Int} {bs : List Nat} {j : Nat} (h : ¬ j < bs.length ∨ n = j) : ¬ j < (cutMost n bs).length := by
  rw [cut_many]
  unfold howMany
  by_cases hc : n < 0 ∨ (bs.length : Int) < n
  · rw [if_pos hc, List.take_length]
    omega
  · rw [if_neg hc, List.length_take]
    omega
set_option maxHeartbeats 3200000 in
set_option maxRecDepth 100000 in
theorem seReplaced_empty (s old new : ByteArray) (n : Int) (hs : s.size ≤ 4294967296) (hn : new.size ≤ 4294967296) (h1 : old.size = 0) (hn1 : -9223372036854775808 ≤ n) (hn2 : n ≤ 9223372036854775807) (hbig : (seRepl s old new n).length ≤ 140737488355328) (w : World) :
    Calls Tryd.prog 23 #[.string s, .string old, .string new, .int .i64 n] w fun e w' => e = .returned (.string (seReplB s old new n)) ∧ Below w.heap.size w w' := by
  have he : old.toList.isEmpty = true := by rw [empty_of]; exact decide_eq_true h1
  obtain ⟨tot, ht⟩ : ∃ tot, seRepl s old new n = tot := ⟨_, rfl⟩
  have hpl : places s old n = cutMost n (starts s ++ [s.size]) := by unfold places; rw [if_pos h1]
  have hok := okB_places s old n
  rw [hpl, h1] at hok
  have HOK := Lib.hid hok
  have HT := Lib.hid (show rj s.data.toList new.data.toList 0 (cutMost n (starts s ++ [s.size])) 0 = tot by rw [← ht, ← hpl]; unfold seRepl; rw [h1])
  have HR := Lib.hid (show seReplB s old new n = ⟨tot.toArray⟩ by unfold seReplB; rw [ht])
  have hsl := starts_le s
  rw [ht] at hbig
  rw [HR.out]
  clear hpl ht HR hok
  go_enter Tryd.func23, Tryd.ntmps23
  go_wp2_with (first
    | (go_at_call 42; refine (seStarts s hs _).mono ?_; rintro e w2 ⟨v2, rfl, hown2, hB2⟩; have HO2 := Lib.hid hown2; obtain ⟨a2, cap2, rfl, hc2, hr2⟩ := own_ints hown2; clear hr2 hown2)
    | (at_builtin
       go_must (refine app_int rfl _ _ rfl w2 w.heap.size _ _ _ _ (by exact rfl) (by exact rfl) HO2.out (by omega) hB2.size ?_; intro v3 w3 hown3 hg3; have HB3 := Lib.hid (below_app hB2 HO2.out (Nat.le_refl _) hg3); have hown4 : w3.ownsRow w.heap.size 3 1 v3 (starts s ++ [s.size]).length ((starts s ++ [s.size]).map fun i : Nat => Value.int .i64 (i : Int)) := (by rw [List.length_append, List.map_append]; exact hown3); obtain ⟨a3, cap3, rfl, hc3, hr3⟩ := own_ints hown4; have HRR := Lib.hid hr3; clear hown3 hown4 hg3 hr3)))
  have hbl : (starts s ++ [s.size]).length ≤ s.size + 1 := by rw [List.length_append]; simp only [List.length_singleton]; omega
  have hL : (starts s ++ [s.size]).length = (starts s).length + 1 := by simp
  generalize starts s ++ [s.size] = bs at *
  generalize (starts s).length = m at *
  go_loop [3, 9, 10, 12, 24] (fun v3 v9 v10 _ vi => SrRelE s new bs n tot v3 v9 v10 vi) (fun _ _ _ _ vi => bs.length - (RowKit.intOf vi).toNat)
  case atStart => exact ⟨0, rfl, by rw [show wrap64 (n - ((0 : Nat) : Int)) = n by unfold wrap64; omega], by omega, 0, 0, ⟨#[]⟩, rfl, rfl, rfl, Nat.zero_le _, HOK.out, Nat.zero_le _, HT.out⟩
  case round =>
    obtain ⟨j, rfl, rfl, hjn, j', f, out, hjj, rfl, rfl, hj, hok, hf, htot⟩ := hrel
    obtain rfl : j' = j := by
      injection hjj with _ h
      omega
    by_cases hk : j' < bs.length
    · by_cases hd : n = j'
      · have hkI : (j' : Int) < (m : Int) + 1 := by omega
        have z : (wrap64 (n - j') == 0) = true := beq_iff_eq.2 ((dec_zero n j' hn1 hn2 (by omega)).2 hd)
        obtain ⟨e1, e2⟩ := sr_end (cut_done (.inr hd)) htot
        have E := Lib.hid e1
        obtain ⟨g, rfl, hg, hcell⟩ := HRR.out j' hk
        have ad1 : ∀ w : World, (Op.stringOp .add out (s.extract f s.size)).run Tryd.prog w = .ok (.string (out ++ s.extract f s.size)) w := fun w => run_string_add_sum (P := Tryd.prog) w _ _ (by omega)
        clear hok htot e1 e2 hd
        go_wp2_with fail
        go_ret
        rw [← E.out]
        exact ⟨rfl, HB3.out⟩
      · obtain ⟨c1, c2⟩ := cut_more hk hjn hd
        obtain ⟨g, rfl, hg, hcell⟩ := HRR.out j' hk
        obtain ⟨o1, o2, o3⟩ := sr_room c1 hok htot
        have nx := srRel_next c1 hok htot
        rw [c2 c1] at o1 o2 o3 nx
        have DW := Lib.hid (dec_wrap n j' hn1 hn2 (by omega))
        have z : (wrap64 (n - j') == 0) = false := beq_eq_false_iff_ne.2 (fun h => hd ((dec_zero n j' hn1 hn2 (by omega)).1 h))
        have NX : Hid (∀ v3, v3 = .int .i64 (wrap64 (wrap64 (n - j') - 1)) → SrRelE s new bs n tot v3 (.string (out ++ (s.extract f bs[j'] ++ new))) (.int .i64 (bs[j'] : Int)) (.int .i64 ((j' + 1 : Nat) : Int))) := Lib.hid (fun v3 h => ⟨j' + 1, rfl, by rw [h, DW.out], by omega, nx⟩)
        have hkI : (j' : Int) < (m : Int) + 1 := by omega
        have j1 : (f : Int) ≤ bs[j'] := by omega
        have j2 : (bs[j'] : Int) ≤ s.size := by omega
        have ad1 : ∀ w : World, (Op.stringOp .add (s.extract f bs[j']) new).run Tryd.prog w = .ok (.string (s.extract f bs[j'] ++ new)) w := fun w => run_string_add_sum (P := Tryd.prog) w _ _ (by omega)
        have ad2 : ∀ w : World, (Op.stringOp .add out (s.extract f bs[j'] ++ new)).run Tryd.prog w = .ok (.string (out ++ (s.extract f bs[j'] ++ new))) w := fun w => run_string_add_sum (P := Tryd.prog) w _ _ (by rw [ByteArray.size_append]; omega)
        clear hok htot o3 nx c1 c2 hd hjn
        go_wp2_with fail
        go_round
        case rel => exact NX.out _ rfl
        case measure => simp [RowKit.intOf]; omega
    · have hkI : ¬ (j' : Int) < (m : Int) + 1 := by omega
      obtain ⟨e1, e2⟩ := sr_end (cut_done (.inl hk)) htot
      have E := Lib.hid e1
      have ad1 : ∀ w : World, (Op.stringOp .add out (s.extract f s.size)).run Tryd.prog w = .ok (.string (out ++ s.extract f s.size)) w := fun w => run_string_add_sum (P := Tryd.prog) w _ _ (by omega)
      clear hok htot e1 e2
      go_wp2_with fail
      go_ret
      rw [← E.out]
      exact ⟨rfl, HB3.out⟩
theorem seReplaced (s old new : ByteArray) (n : Int) (hs : s.size ≤ 4294967296) (hp : old.size ≤ 4294967296) (hn : new.size ≤ 4294967296) (hn1 : -9223372036854775808 ≤ n) (hn2 : n ≤ 9223372036854775807) (hbig : (seRepl s old new n).length ≤ 140737488355328) (w : World) :
    Calls Tryd.prog 23 #[.string s, .string old, .string new, .int .i64 n] w fun e w' => e = .returned (.string (seReplB s old new n)) ∧ Below w.heap.size w w' := by
  by_cases h1 : 1 ≤ old.size
  · exact seReplaced_text s old new n hs hp hn h1 hbig w
  · exact seReplaced_empty s old new n hs hn (by omega) hn1 hn2 hbig w
end Go.Proofs.YthnbifkcbeldmaaDoor
