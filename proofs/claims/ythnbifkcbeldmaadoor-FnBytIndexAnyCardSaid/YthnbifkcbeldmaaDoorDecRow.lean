/- utf8.DecodeRune over bytes in a row: what the model decodes there. (After the library's walk of decodeRuneInStringSlow, turned to rows.) -/
import Derived.Test.YthnbifkcbeldmaaDoorBytes
import Derived.Test.YthnbifkcbeldmaaDoorRune
import Derived.Shelf.Unicode.DecodeAny
namespace Go.Proofs.YthnbifkcbeldmaaDoor
open Go Go.Shelf Go.RowKit Go.Lib Go.Proofs
set_option linter.unusedVariables false
theorem rowAt {w : World} {b o : Nat} {s : ByteArray} (h : Row w b o s) (i : Nat) (hi : i < s.size) : w.cell? ⟨b, o + i, none⟩ = some (.int .u8 ((s.get! i).toNat : Int)) := by
  rw [get_eq s i hi]; exact h i hi
set_option maxHeartbeats 8000000 in
set_option maxRecDepth 1000000 in
theorem decSlowRow (b o cp : Nat) (s : ByteArray) (w : World) (hr : Row w b o s) (hT : Lib.Utf8Tabs 2 3 w) :
    Calls Tryd.prog 131 #[.slice (some ⟨b, o, none⟩) s.size cp] w fun e w' => e = .returned (.tuple #[.int .i32 (Lib.decodeGo s).1, .int .i64 (Lib.decodeGo s).2]) ∧ Below w.heap.size w w' := by
  have u138 := run_underlying Tryd.underlying119
  by_cases h0 : s.size = 0
  · have hz : (s.size : Int) < 1 := by omega
    simp only [Lib.decodeGo, h0, if_true]
    go_enter Tryd.func131, Tryd.ntmps131
    go_wp2
    go_ret2
    exact ⟨rfl, Below.refl _ _⟩
  · have hz0 : (0 : Int) < (s.size : Int) := by omega
    have hz0' : ¬ ((s.size : Int) < 1) := by omega
    obtain ⟨x0, hx0⟩ : ∃ x0, s.get! 0 = x0 := ⟨_, rfl⟩
    obtain ⟨x1, hx1⟩ : ∃ x1, s.get! 1 = x1 := ⟨_, rfl⟩
    obtain ⟨x2, hx2⟩ : ∃ x2, s.get! 2 = x2 := ⟨_, rfl⟩
    obtain ⟨x3, hx3⟩ : ∃ x3, s.get! 3 = x3 := ⟨_, rfl⟩
    have hs0 : ∀ ob : Obj, (w.alloc ob).cell? ⟨b, o, none⟩ = some (.int .u8 (x0.toNat : Int)) := fun ob => by rw [← hx0]; exact rowAt (hr.alloc ob) 0 (by omega)
    have hw0 : w.cell? ⟨b, o, none⟩ = some (.int .u8 (x0.toNat : Int)) := by rw [← hx0]; exact rowAt hr 0 (by omega)
    have l0 := x0.toNat_lt; have l1 := x1.toNat_lt; have l2 := x2.toNat_lt; have l3 := x3.toNat_lt
    have hdec : Lib.decodeGo s = decodeN s.size x0.toNat x1.toNat x2.toNat x3.toNat := by
      simp only [Lib.decodeGo, h0, if_false]
      rw [Lib.decode_at, Nat.sub_zero, Nat.zero_add, Nat.zero_add, Nat.zero_add, hx0, hx1, hx2, hx3]
    rw [hdec]
    clear hdec
    have hc0 := hT.1 x0.toNat (by omega)
    have hres : firstT x0.toNat < 240 → decodeN s.size x0.toNat x1.toNat x2.toNat x3.toNat = slowN s.size x0.toNat x1.toNat x2.toNat x3.toNat (firstT x0.toNat % 8) (accLo (firstT x0.toNat / 16)) (accHi (firstT x0.toNat / 16)) :=
      fun h => (Lib.slow_eq _ _ _ _ _ (by omega) (by omega) (by omega) (by omega) h).symm
    rcases Lib.firstT_cases x0.toNat with hX | hX | hX | hX | hX | hX | hX | hX | hX
    · -- an ASCII byte (this road is not taken from DecodeRuneInString; the text serves it all the same)
      rw [Lib.ascii_eq _ _ _ _ _ hX]
      rw [hX] at hc0
      clear hres hT hX
      go_enter Tryd.func131, Tryd.ntmps131
      go_wp2
      rw [Utf8W.mask240, Utf8W.keep_byte ⟨x0.toNat, l0⟩]
      go_ret2
      exact ⟨rfl, Below.refl _ _⟩
    · -- no lead byte
      rw [Lib.bad_eq _ _ _ _ _ (by omega) hX]
      rw [hX] at hc0
      clear hres hT hX
      go_enter Tryd.func131, Tryd.ntmps131
      go_wp2
      rw [Utf8W.mask241, Utf8W.drop_byte ⟨x0.toNat, l0⟩]
      go_ret2
      exact ⟨rfl, Below.refl _ _⟩
    all_goals replace hres := hres (by omega)
    · -- first[s0] = 2: 2 bytes; acceptRanges[0]
      rw [hX] at hc0 hres
      have ha0 := (hT.2 0 (by omega)).1
      have ha1 := (hT.2 0 (by omega)).2
      simp only [accLo, accHi, Nat.reduceMul, Nat.reduceAdd, Nat.reduceEqDiff, if_true, if_false, Nat.reduceMod, Nat.reduceDiv] at ha0 ha1 hres
      rw [hres]
      clear hres hT hX
      by_cases hn : s.size < 2
      · -- too short: 'if n < sz { return RuneError, 1 }': ahead of every further byte
        have hnz : (s.size : Int) < 2 := by omega
        go_enter Tryd.func131, Tryd.ntmps131
        go_wp2
        all_goals (go_ret2; refine ⟨?_, (Below.refl _ _).alloc (Nat.le_refl _) _⟩; utf8_leaf)
      · -- long enough: every byte that is read is there
        have hz1 : (1 : Int) < (s.size : Int) := by omega
        have hs1 : ∀ ob : Obj, (w.alloc ob).cell? ⟨b, o + 1, none⟩ = some (.int .u8 (x1.toNat : Int)) := fun ob => by rw [← hx1]; exact rowAt (hr.alloc ob) 1 (by omega)
        have hw1 : w.cell? ⟨b, o + 1, none⟩ = some (.int .u8 (x1.toNat : Int)) := by rw [← hx1]; exact rowAt hr 1 (by omega)
        go_enter Tryd.func131, Tryd.ntmps131
        go_wp2
        all_goals (go_ret2; refine ⟨?_, (Below.refl _ _).alloc (Nat.le_refl _) _⟩; utf8_leaf)
    · -- first[s0] = 19: 3 bytes; acceptRanges[1]
      rw [hX] at hc0 hres
      have ha0 := (hT.2 1 (by omega)).1
      have ha1 := (hT.2 1 (by omega)).2
      simp only [accLo, accHi, Nat.reduceMul, Nat.reduceAdd, Nat.reduceEqDiff, if_true, if_false, Nat.reduceMod, Nat.reduceDiv] at ha0 ha1 hres
      rw [hres]
      clear hres hT hX
      by_cases hn : s.size < 3
      · -- too short: 'if n < sz { return RuneError, 1 }': ahead of every further byte
        have hnz : (s.size : Int) < 3 := by omega
        go_enter Tryd.func131, Tryd.ntmps131
        go_wp2
        all_goals (go_ret2; refine ⟨?_, (Below.refl _ _).alloc (Nat.le_refl _) _⟩; utf8_leaf)
      · -- long enough: every byte that is read is there
        have hz1 : (1 : Int) < (s.size : Int) := by omega
        have hz2 : (2 : Int) < (s.size : Int) := by omega
        have hs1 : ∀ ob : Obj, (w.alloc ob).cell? ⟨b, o + 1, none⟩ = some (.int .u8 (x1.toNat : Int)) := fun ob => by rw [← hx1]; exact rowAt (hr.alloc ob) 1 (by omega)
        have hw1 : w.cell? ⟨b, o + 1, none⟩ = some (.int .u8 (x1.toNat : Int)) := by rw [← hx1]; exact rowAt hr 1 (by omega)
        have hs2 : ∀ ob : Obj, (w.alloc ob).cell? ⟨b, o + 2, none⟩ = some (.int .u8 (x2.toNat : Int)) := fun ob => by rw [← hx2]; exact rowAt (hr.alloc ob) 2 (by omega)
        have hw2 : w.cell? ⟨b, o + 2, none⟩ = some (.int .u8 (x2.toNat : Int)) := by rw [← hx2]; exact rowAt hr 2 (by omega)
        go_enter Tryd.func131, Tryd.ntmps131
        go_wp2
        all_goals (go_ret2; refine ⟨?_, (Below.refl _ _).alloc (Nat.le_refl _) _⟩; utf8_leaf)
    · -- first[s0] = 3: 3 bytes; acceptRanges[0]
      rw [hX] at hc0 hres
      have ha0 := (hT.2 0 (by omega)).1
      have ha1 := (hT.2 0 (by omega)).2
      simp only [accLo, accHi, Nat.reduceMul, Nat.reduceAdd, Nat.reduceEqDiff, if_true, if_false, Nat.reduceMod, Nat.reduceDiv] at ha0 ha1 hres
      rw [hres]
      clear hres hT hX
      by_cases hn : s.size < 3
      · -- too short: 'if n < sz { return RuneError, 1 }': ahead of every further byte
        have hnz : (s.size : Int) < 3 := by omega
        go_enter Tryd.func131, Tryd.ntmps131
        go_wp2
        all_goals (go_ret2; refine ⟨?_, (Below.refl _ _).alloc (Nat.le_refl _) _⟩; utf8_leaf)
      · -- long enough: every byte that is read is there
        have hz1 : (1 : Int) < (s.size : Int) := by omega
        have hz2 : (2 : Int) < (s.size : Int) := by omega
        have hs1 : ∀ ob : Obj, (w.alloc ob).cell? ⟨b, o + 1, none⟩ = some (.int .u8 (x1.toNat : Int)) := fun ob => by rw [← hx1]; exact rowAt (hr.alloc ob) 1 (by omega)
        have hw1 : w.cell? ⟨b, o + 1, none⟩ = some (.int .u8 (x1.toNat : Int)) := by rw [← hx1]; exact rowAt hr 1 (by omega)
        have hs2 : ∀ ob : Obj, (w.alloc ob).cell? ⟨b, o + 2, none⟩ = some (.int .u8 (x2.toNat : Int)) := fun ob => by rw [← hx2]; exact rowAt (hr.alloc ob) 2 (by omega)
        have hw2 : w.cell? ⟨b, o + 2, none⟩ = some (.int .u8 (x2.toNat : Int)) := by rw [← hx2]; exact rowAt hr 2 (by omega)
        go_enter Tryd.func131, Tryd.ntmps131
        go_wp2
        all_goals (go_ret2; refine ⟨?_, (Below.refl _ _).alloc (Nat.le_refl _) _⟩; utf8_leaf)
    · -- first[s0] = 35: 3 bytes; acceptRanges[2]
      rw [hX] at hc0 hres
      have ha0 := (hT.2 2 (by omega)).1
      have ha1 := (hT.2 2 (by omega)).2
      simp only [accLo, accHi, Nat.reduceMul, Nat.reduceAdd, Nat.reduceEqDiff, if_true, if_false, Nat.reduceMod, Nat.reduceDiv] at ha0 ha1 hres
      rw [hres]
      clear hres hT hX
      by_cases hn : s.size < 3
      · -- too short: 'if n < sz { return RuneError, 1 }': ahead of every further byte
        have hnz : (s.size : Int) < 3 := by omega
        go_enter Tryd.func131, Tryd.ntmps131
        go_wp2
        all_goals (go_ret2; refine ⟨?_, (Below.refl _ _).alloc (Nat.le_refl _) _⟩; utf8_leaf)
      · -- long enough: every byte that is read is there
        have hz1 : (1 : Int) < (s.size : Int) := by omega
        have hz2 : (2 : Int) < (s.size : Int) := by omega
        have hs1 : ∀ ob : Obj, (w.alloc ob).cell? ⟨b, o + 1, none⟩ = some (.int .u8 (x1.toNat : Int)) := fun ob => by rw [← hx1]; exact rowAt (hr.alloc ob) 1 (by omega)
        have hw1 : w.cell? ⟨b, o + 1, none⟩ = some (.int .u8 (x1.toNat : Int)) := by rw [← hx1]; exact rowAt hr 1 (by omega)
        have hs2 : ∀ ob : Obj, (w.alloc ob).cell? ⟨b, o + 2, none⟩ = some (.int .u8 (x2.toNat : Int)) := fun ob => by rw [← hx2]; exact rowAt (hr.alloc ob) 2 (by omega)
        have hw2 : w.cell? ⟨b, o + 2, none⟩ = some (.int .u8 (x2.toNat : Int)) := by rw [← hx2]; exact rowAt hr 2 (by omega)
        go_enter Tryd.func131, Tryd.ntmps131
        go_wp2
        all_goals (go_ret2; refine ⟨?_, (Below.refl _ _).alloc (Nat.le_refl _) _⟩; utf8_leaf)
    · -- first[s0] = 52: 4 bytes; acceptRanges[3]
      rw [hX] at hc0 hres
      have ha0 := (hT.2 3 (by omega)).1
      have ha1 := (hT.2 3 (by omega)).2
      simp only [accLo, accHi, Nat.reduceMul, Nat.reduceAdd, Nat.reduceEqDiff, if_true, if_false, Nat.reduceMod, Nat.reduceDiv] at ha0 ha1 hres
      rw [hres]
      clear hres hT hX
      by_cases hn : s.size < 4
      · -- too short: 'if n < sz { return RuneError, 1 }': ahead of every further byte
        have hnz : (s.size : Int) < 4 := by omega
        go_enter Tryd.func131, Tryd.ntmps131
        go_wp2
        all_goals (go_ret2; refine ⟨?_, (Below.refl _ _).alloc (Nat.le_refl _) _⟩; utf8_leaf)
      · -- long enough: every byte that is read is there
        have hz1 : (1 : Int) < (s.size : Int) := by omega
        have hz2 : (2 : Int) < (s.size : Int) := by omega
        have hz3 : (3 : Int) < (s.size : Int) := by omega
        have hs1 : ∀ ob : Obj, (w.alloc ob).cell? ⟨b, o + 1, none⟩ = some (.int .u8 (x1.toNat : Int)) := fun ob => by rw [← hx1]; exact rowAt (hr.alloc ob) 1 (by omega)
        have hw1 : w.cell? ⟨b, o + 1, none⟩ = some (.int .u8 (x1.toNat : Int)) := by rw [← hx1]; exact rowAt hr 1 (by omega)
        have hs2 : ∀ ob : Obj, (w.alloc ob).cell? ⟨b, o + 2, none⟩ = some (.int .u8 (x2.toNat : Int)) := fun ob => by rw [← hx2]; exact rowAt (hr.alloc ob) 2 (by omega)
        have hw2 : w.cell? ⟨b, o + 2, none⟩ = some (.int .u8 (x2.toNat : Int)) := by rw [← hx2]; exact rowAt hr 2 (by omega)
        have hs3 : ∀ ob : Obj, (w.alloc ob).cell? ⟨b, o + 3, none⟩ = some (.int .u8 (x3.toNat : Int)) := fun ob => by rw [← hx3]; exact rowAt (hr.alloc ob) 3 (by omega)
        have hw3 : w.cell? ⟨b, o + 3, none⟩ = some (.int .u8 (x3.toNat : Int)) := by rw [← hx3]; exact rowAt hr 3 (by omega)
        go_enter Tryd.func131, Tryd.ntmps131
        go_wp2
        all_goals (go_ret2; refine ⟨?_, (Below.refl _ _).alloc (Nat.le_refl _) _⟩; utf8_leaf)
    · -- first[s0] = 4: 4 bytes; acceptRanges[0]
      rw [hX] at hc0 hres
      have ha0 := (hT.2 0 (by omega)).1
      have ha1 := (hT.2 0 (by omega)).2
      simp only [accLo, accHi, Nat.reduceMul, Nat.reduceAdd, Nat.reduceEqDiff, if_true, if_false, Nat.reduceMod, Nat.reduceDiv] at ha0 ha1 hres
      rw [hres]
      clear hres hT hX
      by_cases hn : s.size < 4
      · -- too short: 'if n < sz { return RuneError, 1 }': ahead of every further byte
        have hnz : (s.size : Int) < 4 := by omega
        go_enter Tryd.func131, Tryd.ntmps131
        go_wp2
        all_goals (go_ret2; refine ⟨?_, (Below.refl _ _).alloc (Nat.le_refl _) _⟩; utf8_leaf)
      · -- long enough: every byte that is read is there
        have hz1 : (1 : Int) < (s.size : Int) := by omega
        have hz2 : (2 : Int) < (s.size : Int) := by omega
        have hz3 : (3 : Int) < (s.size : Int) := by omega
        have hs1 : ∀ ob : Obj, (w.alloc ob).cell? ⟨b, o + 1, none⟩ = some (.int .u8 (x1.toNat : Int)) := fun ob => by rw [← hx1]; exact rowAt (hr.alloc ob) 1 (by omega)
        have hw1 : w.cell? ⟨b, o + 1, none⟩ = some (.int .u8 (x1.toNat : Int)) := by rw [← hx1]; exact rowAt hr 1 (by omega)
        have hs2 : ∀ ob : Obj, (w.alloc ob).cell? ⟨b, o + 2, none⟩ = some (.int .u8 (x2.toNat : Int)) := fun ob => by rw [← hx2]; exact rowAt (hr.alloc ob) 2 (by omega)
        have hw2 : w.cell? ⟨b, o + 2, none⟩ = some (.int .u8 (x2.toNat : Int)) := by rw [← hx2]; exact rowAt hr 2 (by omega)
        have hs3 : ∀ ob : Obj, (w.alloc ob).cell? ⟨b, o + 3, none⟩ = some (.int .u8 (x3.toNat : Int)) := fun ob => by rw [← hx3]; exact rowAt (hr.alloc ob) 3 (by omega)
        have hw3 : w.cell? ⟨b, o + 3, none⟩ = some (.int .u8 (x3.toNat : Int)) := by rw [← hx3]; exact rowAt hr 3 (by omega)
        go_enter Tryd.func131, Tryd.ntmps131
        go_wp2
        all_goals (go_ret2; refine ⟨?_, (Below.refl _ _).alloc (Nat.le_refl _) _⟩; utf8_leaf)
    · -- first[s0] = 68: 4 bytes; acceptRanges[4]
      rw [hX] at hc0 hres
      have ha0 := (hT.2 4 (by omega)).1
      have ha1 := (hT.2 4 (by omega)).2
      simp only [accLo, accHi, Nat.reduceMul, Nat.reduceAdd, Nat.reduceEqDiff, if_true, if_false, Nat.reduceMod, Nat.reduceDiv] at ha0 ha1 hres
      rw [hres]
      clear hres hT hX
      by_cases hn : s.size < 4
      · -- too short: 'if n < sz { return RuneError, 1 }': ahead of every further byte
        have hnz : (s.size : Int) < 4 := by omega
        go_enter Tryd.func131, Tryd.ntmps131
        go_wp2
        all_goals (go_ret2; refine ⟨?_, (Below.refl _ _).alloc (Nat.le_refl _) _⟩; utf8_leaf)
      · -- long enough: every byte that is read is there
        have hz1 : (1 : Int) < (s.size : Int) := by omega
        have hz2 : (2 : Int) < (s.size : Int) := by omega
        have hz3 : (3 : Int) < (s.size : Int) := by omega
        have hs1 : ∀ ob : Obj, (w.alloc ob).cell? ⟨b, o + 1, none⟩ = some (.int .u8 (x1.toNat : Int)) := fun ob => by rw [← hx1]; exact rowAt (hr.alloc ob) 1 (by omega)
        have hw1 : w.cell? ⟨b, o + 1, none⟩ = some (.int .u8 (x1.toNat : Int)) := by rw [← hx1]; exact rowAt hr 1 (by omega)
        have hs2 : ∀ ob : Obj, (w.alloc ob).cell? ⟨b, o + 2, none⟩ = some (.int .u8 (x2.toNat : Int)) := fun ob => by rw [← hx2]; exact rowAt (hr.alloc ob) 2 (by omega)
        have hw2 : w.cell? ⟨b, o + 2, none⟩ = some (.int .u8 (x2.toNat : Int)) := by rw [← hx2]; exact rowAt hr 2 (by omega)
        have hs3 : ∀ ob : Obj, (w.alloc ob).cell? ⟨b, o + 3, none⟩ = some (.int .u8 (x3.toNat : Int)) := fun ob => by rw [← hx3]; exact rowAt (hr.alloc ob) 3 (by omega)
        have hw3 : w.cell? ⟨b, o + 3, none⟩ = some (.int .u8 (x3.toNat : Int)) := by rw [← hx3]; exact rowAt hr 3 (by omega)
        go_enter Tryd.func131, Tryd.ntmps131
        go_wp2
        all_goals (go_ret2; refine ⟨?_, (Below.refl _ _).alloc (Nat.le_refl _) _⟩; utf8_leaf)
end Go.Proofs.YthnbifkcbeldmaaDoor
