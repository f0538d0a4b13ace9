/- The laws FnStrContains and FnIndexMade: the walk of each returns true. -/
import Derived.Test.YtocegdangdcicaaIndex
import Derived.Below
import Derived.WalkSmall
namespace Go.Proofs.Ytocegdangdcicaa
open Go.Shelf Go.RowKit Go.Lib
set_option linter.unusedVariables false

theorem implStrIndex (s sep : ByteArray) (hs : s.size < 1152921504606846976) (hp : sep.size < 1152921504606846976) (w : World) :
    Calls Try.prog 15 #[.string s, .string sep] w fun e w' => e = .returned (.int .i64 (index s.data.toList sep.data.toList)) ∧ w = w' := by
  go_enter Try.func15, Try.ntmps15
  go_wp2_with (first | (go_at_call 34; refine (strIndex s sep hs hp _).mono ?_; rintro e w' ⟨rfl, rfl⟩) | go_in)
  go_ret
  exact ⟨rfl, rfl⟩

def hasB (s sep : ByteArray) : Bool := decide (0 ≤ index s.data.toList sep.data.toList)
theorem gsContains (s sep : ByteArray) (hs : s.size < 1152921504606846976) (hp : sep.size < 1152921504606846976) (w : World) :
    Calls Try.prog 20 #[.string s, .string sep] w fun e w' => e = .returned (.bool (hasB s sep)) ∧ w = w' := by
  unfold hasB
  go_enter Try.func20, Try.ntmps20
  go_wp2_with (first | (go_at_call 34; refine (strIndex s sep hs hp _).mono ?_; rintro e w' ⟨rfl, rfl⟩) | go_in)
  go_ret
  exact ⟨rfl, rfl⟩
theorem implContains (s sep : ByteArray) (hs : s.size < 1152921504606846976) (hp : sep.size < 1152921504606846976) (w : World) :
    Calls Try.prog 10 #[.string s, .string sep] w fun e w' => e = .returned (.bool (hasB s sep)) ∧ w = w' := by
  go_enter Try.func10, Try.ntmps10
  go_wp2_with (go_at_call 20; refine (gsContains s sep hs hp _).mono ?_; rintro e w' ⟨rfl, rfl⟩)
  go_ret
  exact ⟨rfl, rfl⟩

set_option maxHeartbeats 800000 in
theorem walk_FnStrContains (a0 a1 : ByteArray) (w : World) (w0 : a0.size ≤ maxLen) (w1 : a1.size ≤ maxLen) :
    Calls Try.prog 4 #[.string a0, .string a1] w fun e w' => e = .returned (.bool true) ∧ Below w.heap.size w w' := by
  unfold maxLen at w0 w1
  by_cases h0 : 2147483647 < a0.size
  · go_enter Try.func4, Try.ntmps4
    go_wp2
    go_ret
    exact ⟨rfl, Below.refl _ _⟩
  by_cases h1 : 2147483647 < a1.size
  · go_enter Try.func4, Try.ntmps4
    go_wp2
    go_ret
    exact ⟨rfl, Below.refl _ _⟩
  have hab : hasB ⟨#[97, 98]⟩ ⟨#[98]⟩ = true := by decide
  have heq : (hasB a0 a1 == decide (0 ≤ index a0.data.toList a1.data.toList)) = true := by unfold hasB; simp
  go_enter Try.func4, Try.ntmps4
  go_wp2_with (first | (go_at_call 10; refine (implContains _ _ (by first | omega | decide) (by first | omega | decide) _).mono ?_; rintro e w' ⟨rfl, rfl⟩) | (go_at_call 11; refine (seFirst _ _ (by omega) (by omega) _).mono ?_; rintro e w' ⟨rfl, rfl⟩))
  all_goals (go_ret; exact ⟨rfl, Below.refl _ _⟩)

theorem occ_made (a sep b : ByteArray) : occAt (a ++ sep ++ b).data.toList sep.data.toList a.size = true := by
  unfold occAt
  rw [List.isPrefixOf_iff_prefix]
  have e : (a ++ sep ++ b).data.toList = a.data.toList ++ (sep.data.toList ++ b.data.toList) := by simp
  rw [e, List.drop_left' (by simp)]
  exact List.prefix_append _ _
theorem index_made (a sep b : ByteArray) : 0 ≤ index (a ++ sep ++ b).data.toList sep.data.toList ∧ index (a ++ sep ++ b).data.toList sep.data.toList ≤ a.size := by
  have ho := occ_made a sep b
  have hsz : (a ++ sep ++ b).data.toList.length = a.size + sep.size + b.size := by simp; omega
  generalize hl : (a ++ sep ++ b).data.toList = l at *
  generalize hm : sep.data.toList = m at *
  -- the first place
  have key : ∀ n k, a.size - k = n → k ≤ a.size → NoOcc l m k → 0 ≤ index l m ∧ index l m ≤ a.size := by
    intro n
    induction n with
    | zero => intro k h1 h2 h3; obtain rfl : k = a.size := by omega
              rw [index_hit h3 (by omega) ho]; omega
    | succ n ih => intro k h1 h2 h3
                   cases hk : occAt l m k with
                   | true => rw [index_hit h3 (by omega) hk]; omega
                   | false => exact ih (k + 1) (by omega) (by omega) (h3.succ hk)
  exact key _ 0 rfl (Nat.zero_le _) (NoOcc.zero _ _)
theorem last_made (a sep b : ByteArray) : (a.size : Int) ≤ lastIndex (a ++ sep ++ b).data.toList sep.data.toList := by
  have ho := occ_made a sep b
  rw [lastIndex_all]
  have key : ∀ n k, k = a.size + 1 + n → (a.size : Int) ≤ lastOcc (a ++ sep ++ b).data.toList sep.data.toList k := by
    intro n
    induction n with
    | zero => intro k h; subst h; rw [lastOcc_hit _ _ _ ho]; omega
    | succ n ih => intro k h; subst h
                   cases hk : occAt (a ++ sep ++ b).data.toList sep.data.toList (a.size + 1 + n) with
                   | true => rw [show a.size + 1 + (n + 1) = (a.size + 1 + n) + 1 by omega, lastOcc_hit _ _ _ hk]; omega
                   | false => rw [show a.size + 1 + (n + 1) = (a.size + 1 + n) + 1 by omega, lastOcc_miss _ _ _ hk]; exact ih _ rfl
  exact key ((a ++ sep ++ b).size - a.size) _ (by have : (a ++ sep ++ b).size = a.size + sep.size + b.size := by simp
                                                  omega)
theorem implStrLastIndex2 (s sep : ByteArray) (hs : s.size < 4611686018427387904) (w : World) :
    Calls Try.prog 16 #[.string s, .string sep] w fun e w' => e = .returned (.int .i64 (lastIndex s.data.toList sep.data.toList)) ∧ w = w' := by
  go_enter Try.func16, Try.ntmps16
  go_wp2_with (go_at_call 25; refine (strings_LastIndex _ _ hs _).mono ?_; rintro e w' ⟨rfl, rfl⟩)
  go_ret
  exact ⟨rfl, rfl⟩
end Go.Proofs.Ytocegdangdcicaa
