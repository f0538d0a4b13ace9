/- The reference's SeStarts: the places at which code points begin, as the model itself decodes. -/
import Derived.Test.YthnbifkcbeldmaaDoorRune
import Derived.Test.YthnbifkcbeldmaaDoorApp
import Derived.OwnWalk
import Derived.Below
import Derived.Lib.RuneCount
import Derived.Deep.OwnRows
namespace Go.Proofs.YthnbifkcbeldmaaDoor
open Go.RowKit Go.Lib
set_option linter.unusedVariables false

/-- where code points begin, from a place on -/
def startsFrom (s : ByteArray) : Nat → Nat → List Nat
  | 0, _ => []
  | f + 1, pos => if pos < s.size then pos :: startsFrom s f (pos + (Utf8.decode s pos).2) else []
def starts (s : ByteArray) : List Nat := startsFrom s s.size 0

theorem startsFrom_end (s : ByteArray) (f pos : Nat) (h : ¬ pos < s.size) : startsFrom s f pos = [] := by
  cases f <;> simp [startsFrom, h]
theorem startsFrom_length (s : ByteArray) : ∀ f pos, (startsFrom s f pos).length = runeCountFrom s f pos
  | 0, _ => rfl
  | f + 1, pos => by
    unfold startsFrom runeCountFrom
    split
    · rw [List.length_cons, startsFrom_length s f]; omega
    · rfl
theorem starts_length (s : ByteArray) : (starts s).length = runeCount s := startsFrom_length s _ _
theorem decode_w_le (s : ByteArray) (pos : Nat) (h : pos < s.size) : pos + (Utf8.decode s pos).2 ≤ s.size := by
  rw [decode_at]
  have : ∀ n b0 b1 b2 b3 : Nat, 1 ≤ n → (decodeN n b0 b1 b2 b3).2 ≤ n := fun n b0 b1 b2 b3 hn => by
    unfold decodeN
    repeat' split
    all_goals (simp only []; omega)
  have := this (s.size - pos) (s.get! pos).toNat (s.get! (pos + 1)).toNat (s.get! (pos + 2)).toNat (s.get! (pos + 3)).toNat (by omega)
  omega
theorem startsFrom_fuel (s : ByteArray) : ∀ f f' pos, s.size ≤ pos + f → s.size ≤ pos + f' → startsFrom s f pos = startsFrom s f' pos
  | 0, f', pos, h, _ => by rw [startsFrom_end s 0 pos (by omega), startsFrom_end s f' pos (by omega)]
  | f + 1, 0, pos, _, h => by rw [startsFrom_end s 0 pos (by omega), startsFrom_end s (f + 1) pos (by omega)]
  | f + 1, f' + 1, pos, h, h' => by
    unfold startsFrom
    split
    · rename_i hp
      have := decode_width_pos s pos hp
      rw [startsFrom_fuel s f f' _ (by omega) (by omega)]
    · rfl
/-- from a place on -/
def tailStarts (s : ByteArray) (pos : Nat) : List Nat := startsFrom s s.size pos
theorem tailStarts_end (s : ByteArray) (pos : Nat) (h : ¬ pos < s.size) : tailStarts s pos = [] := startsFrom_end s _ _ h
theorem tailStarts_step (s : ByteArray) (pos : Nat) (h : pos < s.size) : tailStarts s pos = pos :: tailStarts s (pos + (Utf8.decode s pos).2) := by
  have hw := decode_width_pos s pos h
  unfold tailStarts
  obtain ⟨n, hn⟩ : ∃ n, s.size = n + 1 := ⟨s.size - 1, by omega⟩
  conv => lhs; rw [hn]; unfold startsFrom
  rw [if_pos h, startsFrom_fuel s n s.size _ (by omega) (by omega)]
theorem tailStarts_zero (s : ByteArray) : tailStarts s 0 = starts s := rfl
theorem tailStarts_ge (s : ByteArray) : ∀ (n pos : Nat), s.size - pos ≤ n → ∀ x ∈ tailStarts s pos, pos ≤ x ∧ x < s.size
  | n, pos, hn, x, hx => by
    by_cases hp : pos < s.size
    · rw [tailStarts_step s pos hp] at hx
      have hw := decode_width_pos s pos hp
      rcases List.mem_cons.1 hx with rfl | hx
      · exact ⟨Nat.le_refl _, hp⟩
      · cases n with
        | zero => omega
        | succ n => have := tailStarts_ge s n _ (by omega) x hx; omega
    · rw [tailStarts_end s pos hp] at hx; cases hx
theorem starts_lt (s : ByteArray) : ∀ x ∈ starts s, x < s.size := fun x hx => (tailStarts_ge s s.size 0 (by omega) x hx).2

/-- A list of places is handed back in a new row. -/
def RetInts (w : World) (l : List Nat) (e : Ending) (w' : World) : Prop :=
  ∃ v, e = .returned v ∧ w'.ownsRow w.heap.size 3 1 v l.length (l.map fun i : Nat => Value.int .i64 (i : Int)) ∧ Below w.heap.size w w'


/-- the relation of its loop -/
def StRel (s : ByteArray) (w : World) (v i : Value) (wr : World) : Prop :=
  ∃ (pos : Nat) (d : List Nat), i = .int .i64 pos ∧ d ++ tailStarts s pos = starts s ∧ pos ≤ s.size ∧ d.length ≤ pos ∧
    wr.ownsRow w.heap.size 3 1 v d.length (d.map fun i : Nat => Value.int .i64 (i : Int)) ∧ Below w.heap.size w wr

theorem stRel_next {s : ByteArray} {w wr w1 : World} {v v1 : Value} {pos : Nat} {d : List Nat} (hp : pos < s.size) (hd : d ++ tailStarts s pos = starts s) (hdl : d.length ≤ pos)
    (hB : Below w.heap.size w wr) (hown : wr.ownsRow w.heap.size 3 1 v d.length (d.map fun i : Nat => Value.int .i64 (i : Int)))
    (o : Obj) (hown1 : w1.ownsRow w.heap.size 3 1 v1 (d.length + 1) ((d.map fun i : Nat => Value.int .i64 (i : Int)) ++ [.int .i64 pos])) (hg : (wr.alloc o).grownBy w1 v.ownBlock) :
    StRel s w v1 (.int .i64 ((pos + (Utf8.decode s pos).2 : Nat) : Int)) w1 := by
  have hw := decode_width_pos s pos hp
  have hl := decode_w_le s pos hp
  refine ⟨_, d ++ [pos], rfl, ?_, hl, by simp; omega, ?_, ?_⟩
  · rw [← hd, tailStarts_step s pos hp]; simp
  · simpa using hown1
  · exact (hB.alloc hB.size o).grown hg (Nat.le_trans hB.size (by simp)) (fun k hk => (hown.lt k hk).1)

set_option maxHeartbeats 1600000 in
theorem seStarts (s : ByteArray) (hs : s.size ≤ 4294967296) (w : World) :
    Calls Tryd.prog 42 #[.string s] w (RetInts w (starts s)) := by
  go_enter Tryd.func42, Tryd.ntmps42
  go_wp2
  go_loopw [3, 4] (StRel s w) (fun _ i _ => s.size - (RowKit.intOf i).toNat)
  case atStart => exact ⟨0, [], rfl, rfl, Nat.zero_le _, Nat.le_refl _, World.ownsRow_nil _ _ _ _, Below.refl _ _⟩
  case round =>
    obtain ⟨pos, d, rfl, hd, hpl, hdl, hown, hB⟩ := hrel
    by_cases hp : pos < s.size
    · have hw := decode_width_pos s pos hp
      have hl := decode_w_le s pos hp
      have D := Lib.hid hd
      clear hd
      have hp' : (pos : Int) < s.size := by omega
      go_wp2_with (at_builtin; refine app_int rfl _ _ rfl _ w.heap.size _ _ _ _ (by exact rfl) (by exact rfl) hown (by omega) hB.size ?_; intro v1 w1 hown1 hg1)
      have H := Lib.hid (stRel_next hp D.out hdl hB hown _ hown1 hg1)
      clear hown1 hg1
      go_wp2_with (go_at_call 43; refine (seRune s pos hp (by omega) _).mono ?_; rintro e w' ⟨rfl, rfl⟩)
      go_roundw
      case rel => simpa using H.out
      case measure => simp [RowKit.intOf]; omega
    · have hp' : ¬ (pos : Int) < s.size := by omega
      rw [tailStarts_end s pos hp, List.append_nil] at hd
      subst hd
      go_wp2
      go_ret
      exact ⟨_, rfl, hown, hB⟩
end Go.Proofs.YthnbifkcbeldmaaDoor
