/- strings.explode and strings.genSplit: the pieces of a text. (genSplit's walk at a separator that is not empty is the library's own, turned to this program by wip/tools/unshelf.py.) -/
import Derived.Test.YthnbifkcbeldmaaDoorPieces
import Derived.Test.YthnbifkcbeldmaaDoorCount
import Derived.Deep.OwnRows
import Derived.Deep.LoopGhost
import Derived.Lib.Explode
import Derived.Lib.Split
namespace Go.Proofs.YthnbifkcbeldmaaDoor
open Go.RowKit Go.Lib
set_option linter.unusedVariables false

/-! ### Plain -/
theorem sub_sub (s : ByteArray) (f a : Nat) : (s.extract f s.size).extract 0 a = s.extract f (f + a) := by
  rw [extract_eq (s.extract f s.size), extract_to_end, extract_eq s f (f + a)]
  simp
theorem sub_to_end (s : ByteArray) (f a : Nat) (h : f + a ≤ s.size) : (s.extract f s.size).extract a (s.extract f s.size).size = s.extract (f + a) s.size := by
  have hsz : (s.extract f s.size).size = s.size - f := by rw [ByteArray.size_extract]; omega
  rw [extract_eq (s.extract f s.size), extract_to_end, extract_eq s (f + a) s.size, hsz, List.drop_drop]
  congr 3 <;> omega
theorem split_cut (s sep : ByteArray) (save : Nat) (h1 : 1 ≤ sep.size) : ∀ k f, f ≤ s.size → splitB sep save k (s.extract f s.size) = cutPieces s sep.size save ((brk s.data.toList sep.data.toList f).take k) f
  | 0, f, _ => by rw [splitB_zero, List.take_zero, cutPieces]
  | k + 1, f, hf => by
    have h1' : 1 ≤ sep.data.toList.length := by simpa using h1
    have hfl : f ≤ s.data.toList.length := by simpa using hf
    have hix : indexB (s.extract f s.size) sep = index (s.data.toList.drop f) sep.data.toList := by rw [indexB, extract_to_end]
    rcases indexB_cases (s.extract f s.size) sep with hm | ⟨i, hi, hroom⟩
    · rw [splitB_miss _ _ _ _ hm, brk_none h1' hfl (hix ▸ hm)]; rfl
    · have hsz : (s.extract f s.size).size = s.size - f := by rw [ByteArray.size_extract]; omega
      rw [splitB_hit _ _ _ _ i hi, brk_some h1' hfl (hix ▸ hi), List.take_succ_cons, cutPieces, sub_sub, sub_to_end s f _ (by omega), split_cut s sep save h1 k _ (by omega)]
      have e : sep.data.toList.length = sep.size := by simp
      rw [e, Nat.add_assoc, Nat.add_assoc]
theorem take_most (s sep : ByteArray) (n : Int) (h1 : 1 ≤ sep.size) (hn : n ≠ 0) (N : Nat) (hN : (N : Int) = min (if n < 0 then (countB s sep : Int) + 1 else n) ((s.size : Int) + 1)) :
    (brk s.data.toList sep.data.toList 0).take (N - 1) = breaks s sep (n - 1) := by
  have hb := countB_brk s sep h1
  have hl := brk_len_le (s := s.data.toList) (sep := sep.data.toList) (by simpa using h1) _ 0 (Nat.le_refl _)
  have hl2 : (brk s.data.toList sep.data.toList 0).length ≤ s.size := by simpa using hl
  unfold breaks cutMost
  rw [if_neg (show ¬ sep.size = 0 by omega)]
  by_cases h : n < 0
  · rw [if_pos h] at hN
    rw [if_pos (by omega), List.take_of_length_le (by omega)]
  · rw [if_neg h] at hN
    rw [if_neg (by omega)]
    by_cases hle : n ≤ s.size + 1
    · congr 1; omega
    · rw [List.take_of_length_le (by omega), List.take_of_length_le (by omega)]
theorem get_sub (s : ByteArray) (f k : Nat) : (s.extract f s.size).get! k = s.get! (f + k) := by
  by_cases h : f + k < s.size
  · have h2 : k < (s.extract f s.size).size := by simp; omega
    rw [get_eq _ k h2, get_eq s (f + k) h]
    simp [ByteArray.getElem_extract]
  · have h2 : ¬ k < (s.extract f s.size).size := by simp; omega
    have e1 : ∀ (a : ByteArray) (i : Nat), ¬ i < a.size → a.get! i = 0 := fun a i hi => by
      have : a.data[i]? = none := Array.getElem?_eq_none (Nat.not_lt.1 hi)
      simp [ByteArray.get!, getElem!_def, this]
      rfl
    rw [e1 _ _ h2, e1 _ _ h]
theorem decode_sub (s : ByteArray) (f : Nat) (h : f < s.size) : Lib.decodeGo (s.extract f s.size) = Utf8.decode s f := by
  have hsz : (s.extract f s.size).size = s.size - f := by rw [ByteArray.size_extract]; omega
  unfold Lib.decodeGo
  rw [if_neg (by omega), decode_at, decode_at, hsz, get_sub, get_sub, get_sub, get_sub]
  rfl

theorem infoS : (Tryd.prog.info? 9).map (fun i => (i.zero, i.size, i.bytes)) = some (some (.string ByteArray.empty), 1, 16) := by kernel_rfl
set_option maxHeartbeats 4000000 in
set_option maxRecDepth 1000000 in
theorem genSplit_core (s sep : ByteArray) (sv : Nat) (n : Int) (N : Nat) (w : World) (hs : s.size < 4294967281) (h1 : 1 ≤ sep.size) (hsv : sv ≤ sep.size)
    (hI : ∀ (x : ByteArray) (c : Array Value), x.size ≤ s.size → Calls Tryd.prog 82 #[.string x, .string sep] (w.alloc (.cells c 9)) fun e w' => e = .returned (.int .i64 (Lib.indexB x sep)) ∧ w' = w.alloc (.cells c 9))
    (hC : Calls Tryd.prog 80 #[.string s, .string sep] w fun e w' => e = .returned (.int .i64 (Lib.countB s sep)) ∧ w' = w)
    (hn0 : n ≠ 0) (hn63 : n ≤ 9223372036854775807) (hN : (N : Int) = min (if n < 0 then (Lib.countB s sep : Int) + 1 else n) ((s.size : Int) + 1)) :
    Calls Tryd.prog 91 #[.string s, .string sep, .int .i64 sv, .int .i64 n] w fun e w' =>
      e = .returned (.slice (some ⟨w.heap.size, 0, none⟩) (Lib.splitB sep sv (N - 1) s).length N) ∧ w' = w.alloc (.cells (Lib.cellsOf (Lib.splitB sep sv (N - 1) s) N) 9) := by
  obtain ⟨cn, hcn⟩ : ∃ cn : Nat, Lib.countB s sep = cn := ⟨_, rfl⟩
  rw [hcn] at hC hN
  have hcl : cn ≤ s.size + 1 := by rw [← hcn, Lib.size_eq]; exact Lib.count_le _ _
  clear hcn
  have hne : (n == 0) = false := beq_eq_false_iff_ne.2 hn0
  have hse : sep.toList.isEmpty = false := by
    rw [Lib.toList_data]
    cases h : sep.data.toList with
    | nil => have := Lib.size_eq sep; rw [h, List.length_nil] at this; omega
    | cons _ _ => rfl
  -- THE NUMBER OF PIECES AT MOST, under one name
  obtain ⟨eN, hdec⟩ : (min (if n < 0 then (cn : Int) + 1 else n) ((s.size : Int) + 1) = (N : Int)) ∧ True := ⟨hN.symm, trivial⟩
  -- THE LOOP AND WHAT STANDS BEHIND IT, the same on both ways to it
  have eNn : n < 0 → min ((cn : Int) + 1) ((s.size : Int) + 1) = (N : Int) := fun h => by rw [← eN, if_pos h]
  have eNp : ¬ n < 0 → min n ((s.size : Int) + 1) = (N : Int) := fun h => by rw [← eN, if_neg h]
  clear eN hN hdec
  by_cases hneg : n < 0
  all_goals
    (first | have eN' := eNn hneg | have eN' := eNp hneg)
    clear eNn eNp
    have hNs : (N : Int) ≤ (s.size : Int) + 1 := by rw [← eN']; exact Int.min_le_right _ _
    have hN1 : (1 : Int) ≤ (N : Int) := by rw [← eN']; exact Int.le_min.2 ⟨by omega, by omega⟩
    have hmk := run_make_row' (P := Tryd.prog) 32 9 (.string ByteArray.empty) 16 Tryd.underlying32 infoS rfl .i64 .i64 N (by omega) (by omega)
    go_enter Tryd.func91, Tryd.ntmps91
    go_wp2_with (first | (go_at_call 80; refine hC.mono ?_; rintro e w' ⟨rfl, hw⟩; rw [hw]))
    clear hmk hC
    go_loopg [0, 10] (N - 1) (fun g s0 s10 wr => ∃ (done : List ByteArray) (rest : ByteArray), s0 = .string rest ∧ s10 = .int .i64 done.length ∧ done.length ≤ N - 1 ∧ g = N - 1 - done.length ∧ rest.size ≤ s.size ∧
      wr = w.alloc (.cells (Lib.cellsOf done N) 9) ∧ done ++ Lib.splitB sep sv (N - 1 - done.length) rest = Lib.splitB sep sv (N - 1) s)
    case atStart => exact ⟨[], s, rfl, rfl, Nat.zero_le _, rfl, Nat.le_refl _, by rw [Lib.cellsOf_nil], rfl⟩
    case round =>
      obtain ⟨done, rest, rfl, rfl, hd, rfl, hrs, rfl, hsp⟩ := hrel
      have hnext : (Lib.cellsOf done N)[done.length]? = some (.string ByteArray.empty) := Lib.cellsOf_next (by omega)
      have HS : Aside (done ++ Lib.splitB sep sv (N - 1 - done.length) rest = Lib.splitB sep sv (N - 1) s) := hsp
      clear hsp
      -- HOW IT ENDS, by whichever way the loop is left: 'a[i] = s; return a[:i+1]'
      have fin : Lib.splitB sep sv (N - 1 - done.length) rest = [rest] → (Lib.splitB sep sv (N - 1) s).length = done.length + 1 ∧ (Lib.cellsOf done N).setIfInBounds done.length (.string rest) = Lib.cellsOf (Lib.splitB sep sv (N - 1) s) N := fun h => by
        have e := HS.out
        rw [h] at e
        rw [← e]
        exact ⟨by simp, Lib.cellsOf_set (by omega) rest⟩
      by_cases hlt : done.length < N - 1
      · have hltz : ((done.length : Nat) : Int) < (N : Int) - 1 := by omega
        rcases Lib.indexB_cases rest sep with hix | ⟨i, hix, hroom⟩
        · -- no instance more: 'break'
          go_wp2_with (first | (go_at_call 82; refine (hI rest _ hrs).mono ?_; rintro e w' ⟨rfl, hw⟩; rw [hw, hix]))
          go_ret
          obtain ⟨f1, f2⟩ := fin (Lib.splitB_miss sep sv _ rest hix)
          rw [f1, ← f2]
          exact ⟨by first | rfl | (congr 2 <;> omega), rfl⟩
        · -- an instance at i: 'a[i] = s[:m+sepSave]; s = s[m+len(sep):]; i++'
          have c0 : ¬ ((i : Int) < 0) := by omega
          have c1 : (0 : Int) ≤ ↑i + ↑sv := by omega
          have c2 : (↑i + ↑sv : Int) ≤ ↑rest.size := by omega
          have c3 : (0 : Int) ≤ ↑i + ↑sep.size := by omega
          have c4 : (↑i + ↑sep.size : Int) ≤ ↑rest.size := by omega
          go_wp2_with (first | (go_at_call 82; refine (hI rest _ hrs).mono ?_; rintro e w' ⟨rfl, hw⟩; rw [hw, hix]))
          go_roundg (N - 1 - (done.length + 1))
          case measure => omega
          case rel =>
            refine ⟨done ++ [rest.extract 0 (i + sv)], rest.extract (i + sep.size) rest.size, rfl, by simp, by simp; omega, by simp, by rw [ByteArray.size_extract]; omega, by rw [← Lib.cellsOf_set (by omega)], ?_⟩
            rw [← HS.out, show N - 1 - done.length = (N - 1 - (done.length + 1)) + 1 by omega, Lib.splitB_hit sep sv _ rest i hix]
            simp
      · -- as many pieces as were asked for, but one: the rest is the last
        have hltz : ¬ (((done.length : Nat) : Int) < (N : Int) - 1) := by omega
        go_wp2
        go_ret
        obtain ⟨f1, f2⟩ := fin (by rw [show N - 1 - done.length = 0 by omega]; rfl)
        rw [f1, ← f2]
        exact ⟨by first | rfl | (congr 2 <;> omega), rfl⟩


theorem strIn_new (w : World) (d : List ByteArray) (N : Nat) (T : TypeId) : StrIn (w.alloc (.cells (cellsOf d N) T)) (some ⟨w.heap.size, 0, none⟩) d := fun i hi => by
  refine ⟨w.heap.size, rfl, by simp, ?_⟩
  rw [World.cell?_alloc_at _ _ _ _ rfl]
  simp only [cellsOf, Array.getElem?_append, Array.getElem?_map, List.getElem?_toArray, List.size_toArray]
  rw [List.getElem?_append_left (by simpa using hi), List.getElem?_map, List.getElem?_eq_getElem hi]
  rfl
theorem genSplit_text (s sep : ByteArray) (save : Nat) (n : Int) (w : World) (hs : s.size ≤ 2147483647) (hp : sep.size ≤ 2147483647) (h1 : 1 ≤ sep.size) (hsv : save ≤ sep.size) (hn0 : n ≠ 0) (hn : n ≤ 9223372036854775807) :
    Calls Tryd.prog 91 #[.string s, .string sep, .int .i64 save, .int .i64 n] w (RetStrs w (cutPieces s sep.size save (breaks s sep (n - 1)) 0)) := by
  obtain ⟨N, hN⟩ : ∃ N : Nat, (N : Int) = min (if n < 0 then (countB s sep : Int) + 1 else n) ((s.size : Int) + 1) := ⟨(min (if n < 0 then (countB s sep : Int) + 1 else n) ((s.size : Int) + 1)).toNat, by split <;> omega⟩
  have e := split_cut s sep save h1 (N - 1) 0 (Nat.zero_le _)
  rw [take_most s sep n h1 hn0 N hN, whole_piece] at e
  refine (genSplit_core s sep save n N w (by omega) h1 hsv (fun x c hx => (gsIndex x sep (by omega) (by omega) _).mono (fun e w' h => ⟨h.1, h.2.symm⟩)) ((gsCount_ne s sep (by omega) (by omega) (by omega) w).mono (fun e w' h => ⟨by rw [h.1, cntB_more s sep h1], h.2.symm⟩)) hn0 hn hN).mono ?_
  rintro e' w' ⟨rfl, rfl⟩
  rw [e]
  exact ⟨_, N, rfl, strIn_new _ _ _ _, (Below.refl _ _).alloc (Nat.le_refl _) _⟩
end Go.Proofs.YthnbifkcbeldmaaDoor
