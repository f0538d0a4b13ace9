/- bytealg.Compare over two rows of bytes in different blocks returns the plain 'cmpB'; Equal of bytes. -/
import Derived.Test.YtpdlndpimfphlaaCmp
import Derived.LaidEqlPtr
import Derived.ScopeJumps
import Derived.WalkMore
namespace Go.Proofs.Ytpdlndpimfphlaa
open Go.RowKit Go.Lib
set_option linter.unusedVariables false

/-- a scope that is left forward, to a label behind -/
theorem wp_scope_fwd {P : Program} {c rest : Code} {Q : Exit → Act → World → Prop} {a : Act} {w : World} (l : Nat) (hf : findLabel c l = some rest)
    (h : c.wp P (Exit.jump l (fun a' w' => rest.wp P (Exit.jump l (fun _ _ => False) Q) a' w') Q) a w) : (Code.scope c).wp P Q a w :=
  wp_scope_jumps l (fun a' w' => rest.wp P (Exit.jump l (fun _ _ => False) Q) a' w') (fun _ _ => 0) hf h (fun a' w' hJ => wp_mono hJ (fun e a2 w2 hq => by
    cases e with
    | goto l' => exact hq.2.elim
    | normal => exact hq
    | exit id => exact hq
    | ret => exact hq
    | panic ch => exact hq
    | outgrown => exact hq))

theorem ptr_other (b1 o1 b2 o2 : Nat) (w : World) (hne : b1 ≠ b2) (h1 : Blk w b1) (h2 : Blk w b2) (n : Nat) :
    (binOp .eql 52 (.pointer (some ⟨b1, o1, none⟩)) (.pointer (some ⟨b2, o2, none⟩))).run Try.prog (w.drewN n) = .ok (.bool false) (w.drewN n) := by
  obtain ⟨i0, hi, hz0, hz1, hz2⟩ := info_parts info8
  obtain ⟨c1, t1, e1⟩ := h1
  obtain ⟨c2, t2, e2⟩ := h2
  exact run_eql_ptr_other (w.drewN n) Try.underlying52 hi (by omega) (fun e => hne (by injection e)) e1 e2

set_option maxHeartbeats 1600000 in
theorem compareRows (b1 o1 c1 b2 o2 c2 : Nat) (a b : ByteArray) (ha : a.size < 4611686018427387904) (hb : b.size < 4611686018427387904) (hne : b1 ≠ b2) (w : World) (k1 : Blk w b1) (k2 : Blk w b2) (ra : Row w b1 o1 a) (rb : Row w b2 o2 b) :
    Calls Try.prog 54 #[.slice (some ⟨b1, o1, none⟩) a.size c1, .slice (some ⟨b2, o2, none⟩) b.size c2] w fun e w' => e = .returned (.int .i64 (cmpB a b)) ∧ ∃ n, w' = w.drewN n := by
  have hpe := ptr_other b1 o1 b2 o2 w hne k1 k2
  have hc0 := CmpAt.zero a b
  clear hne k1 k2
  by_cases hA : a.size = 0 ∧ b.size = 0
  · obtain ⟨hA1, hA2⟩ := hA
    have hf := Lib.hid (hc0.same (by omega) (by omega))
    have hz' : ((a.size : Int) == 0) = true := beq_iff_eq.2 (by omega)
    have hlt : ¬ b.size < a.size := by omega
    have hlt2 : ¬ a.size < b.size := by omega
    clear hA1 hA2 hc0 ra rb
    go_enter Try.func54, Try.ntmps54
    go_wp2
    refine wp_scope_fwd 0 rfl ?_
    go_wp2
    go_quiet (fail)
    go_wp2
    go_step3
    refine ⟨rfl, ?_⟩
    go_wp2
    simp only [Exit.jump]
    go_ret
    rw [hf.out]
    exact ⟨rfl, _, rfl⟩
  by_cases hB : a.size = 0
  · have hf := Lib.hid (hc0.shorter (by omega) (by omega))
    have hz' : ((a.size : Int) == 0) = true := beq_iff_eq.2 (by omega)
    have hlt : ¬ b.size < a.size := by omega
    have hlt2 : a.size < b.size := by omega
    clear hB hA hc0 ra rb
    go_enter Try.func54, Try.ntmps54
    go_wp2
    refine wp_scope_fwd 0 rfl ?_
    go_wp2
    go_quiet (fail)
    go_wp2
    go_step3
    refine ⟨rfl, ?_⟩
    go_wp2
    simp only [Exit.jump]
    go_ret
    rw [hf.out]
    exact ⟨rfl, _, rfl⟩
  by_cases hC : b.size = 0
  · have hf := Lib.hid (hc0.longer (by omega) (by omega))
    have hz' : ((b.size : Int) == 0) = true := beq_iff_eq.2 (by omega)
    have hlt : b.size < a.size := by omega
    have hlt2 : ¬ a.size < b.size := by omega
    clear hC hB hA hc0 ra rb
    go_enter Try.func54, Try.ntmps54
    go_wp2
    refine wp_scope_fwd 0 rfl ?_
    go_wp2
    go_quiet (fail)
    go_wp2
    go_step3
    refine ⟨rfl, ?_⟩
    go_wp2
    simp only [Exit.jump]
    go_ret
    rw [hf.out]
    exact ⟨rfl, _, rfl⟩
  have hz' : ((b.size : Int) == 0) = false := beq_eq_false_iff_ne.2 (by omega)
  have hz'' : ((a.size : Int) == 0) = false := beq_eq_false_iff_ne.2 (by omega)
  have n0a : 0 < a.size := by omega
  have n0b : 0 < b.size := by omega
  clear hA hB hC
  have Ra := Lib.hid ra
  have Rb := Lib.hid rb
  clear ra rb
  by_cases h : b.size < a.size
  all_goals
    go_enter Try.func54, Try.ntmps54
    go_wp2; go_step3; go_wp2
    go_quiet (fail)
    go_wp2
    rename_i nq0
    go_loopw [6, 7, 8] (fun vi _ _ wr => ∃ k n : Nat, wr = w.drewN n ∧ k ≤ a.size ∧ k ≤ b.size ∧ vi = .int .i64 k ∧ CmpAt a b k) (fun vi _ _ _ => a.size - (RowKit.intOf vi).toNat)
    case atStart => exact ⟨0, _, rfl, Nat.zero_le _, Nat.zero_le _, rfl, CmpAt.zero _ _⟩
    case round =>
      obtain ⟨k, n, rfl, hk1, hk2, rfl, hc⟩ := hrel
      by_cases h1 : k < a.size ∧ k < b.size
      · obtain ⟨h1, h2⟩ := h1
        have ca := Ra.out k h1
        have cb := Rb.out k h2
        have i1 : (k : Int) < a.size := by omega
        have i2 : (k : Int) < b.size := by omega
        by_cases hl : (a[k].toNat : Int) < b[k].toNat
        · have hf := Lib.hid (hc.lt h1 h2 hl)
          go_wp2
          go_quiet (fail)
          go_wp2
          try rw [Exit.noGoto_ret]
          go_ret
          rw [hf.out]
          exact ⟨rfl, by first | exact ⟨_, rfl⟩ | exact drewN2 _ _ _⟩
        · by_cases hg : (b[k].toNat : Int) < a[k].toNat
          · have hf := Lib.hid (hc.gt h1 h2 hg)
            go_wp2
            go_quiet (fail)
            go_wp2
            try rw [Exit.noGoto_ret]
            go_ret
            rw [hf.out]
            exact ⟨rfl, by first | exact ⟨_, rfl⟩ | exact drewN2 _ _ _⟩
          · have hf := Lib.hid (hc.eq h1 h2 hl hg)
            go_wp2
            go_quiet (fail)
            go_wp2
            go_roundw
            case rel => exact ⟨k + 1, _, rfl, by omega, by omega, by go_num, hf⟩
            case measure => simp [RowKit.intOf]; omega
      · by_cases he : a.size < b.size
        · have hf := Lib.hid (hc.shorter (by omega) (by omega))
          go_wp2
          all_goals (go_step3; go_wp2; (try rw [Exit.noGoto_ret]); go_ret; rw [hf.out]; exact ⟨rfl, n, rfl⟩)
        · by_cases hg : b.size < a.size
          · have hf := Lib.hid (hc.longer (by omega) (by omega))
            go_wp2
            all_goals (go_step3; go_wp2; (try rw [Exit.noGoto_ret]); go_ret; rw [hf.out]; exact ⟨rfl, n, rfl⟩)
          · have hf := Lib.hid (hc.same (by omega) (by omega))
            go_wp2
            all_goals (go_step3; go_wp2; (try rw [Exit.noGoto_ret]); go_ret; rw [hf.out]; exact ⟨rfl, n, rfl⟩)
end Go.Proofs.Ytpdlndpimfphlaa
