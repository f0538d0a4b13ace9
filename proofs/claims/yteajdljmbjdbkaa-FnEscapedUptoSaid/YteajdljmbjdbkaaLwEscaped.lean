/- The law FnEscaped in its second form. -/
import Derived.Test.YteajdljmbjdbkaaPairs
import Derived.Test.YteajdljmbjdbkaaLwDropped
import Derived.Test.YteajdljmbjdbkaaEsc
import Derived.Deep.QuietTactic
import Derived.BigQuiet
import Derived.Test.YteajdljmbjdbkaaStepStr
namespace Go.Proofs.Yteajdljmbjdbkaa
open Go.RowKit Go.Lib
set_option linter.unusedVariables false

def bet (m : UInt8) (b : ByteArray) : Nat → UInt8
  | 0 => m
  | i + 1 => atB b i
def kap (c : ByteArray) (n : Nat) : Nat → UInt8
  | 0 => atB c n
  | i + 1 => atB c i
def thereF (m : UInt8) (b c : ByteArray) : Nat → ByteArray × ByteArray := escT m (bet m b) (kap c b.size)
def backF (m : UInt8) (b c : ByteArray) : Nat → ByteArray × ByteArray := escB m (bet m b) (kap c b.size)
theorem kap_inj (c : ByteArray) (n : Nat) (h1 : ∀ p q, p < n → q < n → atB c p = atB c q → p = q) (h2 : ∀ p, p < n → atB c p ≠ atB c n) :
    ∀ i j, i < n + 1 → j < n + 1 → kap c n i = kap c n j → i = j := by
  intro i j hi hj h
  match i, j with
  | 0, 0 => rfl
  | 0, j + 1 => exact absurd h.symm (h2 j (by omega))
  | i + 1, 0 => exact absurd h (h2 i (by omega))
  | i + 1, j + 1 => rw [h1 i j (by omega) (by omega) h]
theorem there_size (m : UInt8) (b c : ByteArray) (N : Nat) : ∀ x ∈ pairsF (thereF m b c) N, x.size ≤ 2 := fun x hx => by
  obtain ⟨i, _, rfl | rfl⟩ := pairsF_mem hx
  · exact (by decide : 1 ≤ 2)
  · exact Nat.le_of_eq (by simp [thereF, escT, oneB, ByteArray.size_append]; rfl)
theorem back_size (m : UInt8) (b c : ByteArray) (N : Nat) : ∀ x ∈ pairsF (backF m b c) N, x.size ≤ 2 := fun x hx => by
  obtain ⟨i, _, rfl | rfl⟩ := pairsF_mem hx
  · exact Nat.le_of_eq (by simp [backF, escB, oneB, ByteArray.size_append]; rfl)
  · exact (by decide : 1 ≤ 2)
theorem atB_cut (c : ByteArray) (j i : Nat) (hj : j ≤ c.size) (h : i < j) : atB (c.extract 0 j) i = atB c i := by
  have h1 : i < (c.extract 0 j).size := by rw [ByteArray.size_extract]; omega
  rw [← atB_get _ i h1, ← atB_get c i (by omega)]
  simp [ByteArray.getElem_extract]
theorem noB_at {c : ByteArray} {j : Nat} (hj : j ≤ c.size) {x : UInt8} (h : hasB (c.extract 0 j) x = false) : ∀ p, p < j → atB c p ≠ x := fun p hp e => by
  have := (hasB_at (c.extract 0 j) x).2 ⟨p, by rw [ByteArray.size_extract]; omega, by rw [atB_cut c j p hj hp]; exact e⟩
  rw [this] at h
  cases h
/-- 'append(row, y, z)' in a region that draws; where the row lies is told. -/
theorem step_str2w {ops : Array Oper} {o : Oper} {a : Act} {W : World} {K : Act → World → Prop} {Q : Exit → Act → World → Prop} {E : Prop} (hgd : o.guard = none) (s x : Operand)
    (ho : o.op = .call { callee := .builtin .append, args := #[s, x], argTypes := #[22, 22] })
    (B base n : Nat) (v : Value) (xs : List Value) (y z : ByteArray) (T : TypeId) (fr : Nat × Nat) (hs : a.eval s = v) (hx : a.eval x = .slice (some ⟨B, 0, none⟩) 2 2)
    (hbk : W.heap[B]? = some (.cells #[.string y, .string z] T fr)) (hown : W.ownsRow base 9 1 v n xs) (hn : n ≤ 1099511627776) (hb : base ≤ W.heap.size)
    (h : ∀ g cap w', w'.ownsRow base 9 1 (.slice (some ⟨g, 0, none⟩) (n + 2) cap) (n + 2) (xs ++ [.string y, .string z]) → W.grownBy w' v.ownBlock → (v.ownBlock = some g ∨ g = W.heap.size) → K (a.put o.dst (.slice (some ⟨g, 0, none⟩) (n + 2) cap)) w') :
    if Region.wanted o (yielded ops a.tmps) = true then Oper.wp Try.prog o a W K Q else E := by
  obtain ⟨i0, hi, hz0, hz1, hz2⟩ := info_parts infoStr
  exact step_append_lies W hgd s x 22 ho base 9 i0 (.string ⟨#[]⟩) 1 16 Try.underlying22 hi hz0 hz1 hz2 rfl (by decide) v n xs hs hown ⟨B, 0, none⟩ 2 2 [.string y, .string z] hx rfl
    (World.news_of_block hbk) (fun u hu => by
      simp at hu
      rcases hu with rfl | rfl <;> rfl) (by omega) (by unfold maxLen; omega) (by omega) hb W.heap.size rfl (fun g cap w' h1 h2 h3 _ => h g cap w' h1 h2 h3)
def EsRel (w : World) (m : UInt8) (b c : ByteArray) (v10 v11 v58 : Value) (wr : World) : Prop :=
  ∃ j : Nat, v58 = .int .i64 (j : Int) ∧ j ≤ b.size ∧ OwnS wr w.heap.size v10 (pairsF (thereF m b c) (j + 1)) ∧ OwnS wr w.heap.size v11 (pairsF (backF m b c) (j + 1)) ∧ v10.ownBlock ≠ v11.ownBlock ∧ Below w.heap.size w wr ∧
    (∀ p q, p < j → q < j → atB c p = atB c q → p = q) ∧ (∀ p, p < j → atB c p ≠ atB c b.size)
theorem own_two (W : World) (base g : Nat) (y z : ByteArray) (hg : W.heap.size = g) (hb : base ≤ g) : OwnS (W.alloc (.cells #[.string y, .string z] 9)) base (.slice (some ⟨g, 0, none⟩) 2 2) [y, z] := by
  subst hg
  exact ⟨rfl, .inr ⟨W.heap.size, 2, #[.string y, .string z], rfl, hb, heap_alloc_new W _, Nat.le_refl _, by unfold maxLen; omega, rfl, rfl⟩⟩
theorem own_oneB (W : World) (base : Nat) (m : UInt8) (hb : base ≤ W.heap.size) : OwnB (W.alloc (.cells #[.int .u8 (m.toNat : Int)] 5)) base (.slice (some ⟨W.heap.size, 0, none⟩) 1 1) [m] :=
  ⟨rfl, .inr ⟨W.heap.size, 1, #[.int .u8 (m.toNat : Int)], rfl, hb, heap_alloc_new W _, Nat.le_refl _, by unfold maxLen; omega, rfl, rfl⟩⟩
theorem ne_step {wr : World} {base n g : Nat} {v10 v11 : Value} {xs : List Value} (h : wr.ownsRow base 9 1 v11 n xs) (hne : v10.ownBlock ≠ v11.ownBlock) (hg : v10.ownBlock = some g ∨ wr.heap.size ≤ g) : some g ≠ v11.ownBlock := by
  intro e
  rcases hg with hg | hg
  · exact hne (hg.trans e)
  · have := (World.ownsRow.lt h g e.symm).2
    omega
theorem below_via {B : Nat} {w wr W w2 : World} {row : Option Nat} (hg : W.grownBy w2 row) (h : Below B w wr) (h1 : W.os = wr.os) (h2 : W.tape = wr.tape) (h3 : W.output = wr.output) (h4 : W.heap = wr.heap) (hB : B ≤ wr.heap.size) (hr : ∀ k, row = some k → B ≤ k) : Below B w w2 :=
  Below.grown (⟨h1.trans h.os, h2.trans h.tape, h3.trans h.output, h4 ▸ h.size, fun i hi => by rw [h4]; exact h.block i hi⟩ : Below B w W) hg (h4 ▸ hB) hr
theorem kept_via {base : Nat} {wr W w2 : World} {row : Option Nat} {v : Value} {l : List ByteArray} {o : Obj} (hg : W.grownBy w2 row) (h : OwnS wr base v l) (e : W.heap = (wr.alloc o).heap) (hne : v.ownBlock ≠ row) : OwnS w2 base v l := by
  have h3 := World.ownsRow.alloc h o
  have h4 : OwnS W base v l := by
    unfold OwnS World.ownsRow
    unfold World.ownsRow at h3
    rw [e]
    exact h3
  exact World.ownsRow.kept h4 hg (.inr hne)
set_option maxHeartbeats 3200000 in
set_option maxRecDepth 100000 in
theorem law_escaped (m : UInt8) (a1 a2 a3 : ByteArray) (w : World) (b1 : a1.size ≤ 1048576) (b2 : a2.size ≤ 1048576) (b3 : a3.size ≤ 1048576) :
    Calls Try.prog 13 #[.int .u8 (m.toNat : Int), .string a1, .string a2, .string a3] w fun e w' => e = .returned (.bool true) ∧ Below w.heap.size w w' := by
  have hnot : ∀ (x : Bool) (w : World), (Op.unary .not (.bool x)).run Try.prog w = .ok (.bool (!x)) w := fun _ _ => rfl
  by_cases hshort : a2.size ≤ a1.size
  · go_enter Try.func13, Try.ntmps13
    go_wp2_with fail
    go_ret
    exact ⟨rfl, Below.refl _ _⟩
  have hlen : a1.size < a2.size := by omega
  have c1 : (0 : Int) ≤ (a1.size : Int) := by omega
  have c2 : (a1.size : Int) + 1 ≤ (a2.size : Int) := by omega
  have c3 : IntKind.i64.wrap ((a1.size : Int) + 1) = (a1.size : Int) + 1 := by rw [IntKind.wrap_i64]; omega
  have c4 : (a1.size : Int) ≤ (a1.size : Int) + 1 := by omega
  have c5 : (0 : Int) ≤ (a1.size : Int) + 1 := by omega
  have c6 : ¬ ((a2.size : Int) ≤ (a1.size : Int)) := by omega
  have HCN := Lib.hid (cut_one a2 a1.size hlen)
  have hback := (own_oneB w w.heap.size m (Nat.le_refl _)).back 44 Try.underlying44
  have ad0 : ∀ w : World, (Op.stringOp .add (oneB m) (a2.extract a1.size (a1.size + 1))).run Try.prog w = .ok (.string (oneB m ++ a2.extract a1.size (a1.size + 1))) w := fun w => run_string_add_sum (P := Try.prog) w _ _ (by rw [HCN.out]; exact (by decide : 1 + 1 ≤ maxLen))
  have ad : ∀ (j : Nat), j < a2.size → ∀ w : World, (Op.stringOp .add (⟨#[m]⟩ : ByteArray) (a2.extract j (j + 1))).run Try.prog w = .ok (.string ((⟨#[m]⟩ : ByteArray) ++ a2.extract j (j + 1))) w := fun j hj w => run_string_add_sum (P := Try.prog) w _ _ (by rw [cut_one a2 j hj]; exact (by decide : 1 + 1 ≤ maxLen))
  have AD := Lib.hid ad
  clear ad
  go_enter Try.func13, Try.ntmps13
  go_wp2_with fail
  clear ad0 hback
  go_loopw [10, 11, 58] (EsRel w m a1 a2) (fun _ _ i _ => a1.size - (RowKit.intOf i).toNat)
  case atStart =>
    refine ⟨0, rfl, Nat.zero_le _, ?_, ?_, ?_, ?_, fun p q h => absurd h (Nat.not_lt_zero _), fun p h => absurd h (Nat.not_lt_zero _)⟩
    · have h := World.ownsRow.alloc (own_two (w.alloc (.cells #[.int .u8 (m.toNat : Int)] 5)) w.heap.size (w.heap.size + 1) (oneB m) (oneB m ++ a2.extract a1.size (a1.size + 1)) (by simp) (by omega)) (.cells #[.string (oneB m ++ a2.extract a1.size (a1.size + 1)), .string (oneB m)] 9)
      rw [HCN.out] at h ⊢
      exact h
    · have h := own_two ((w.alloc (.cells #[.int .u8 (m.toNat : Int)] 5)).alloc (.cells #[.string (oneB m), .string (oneB m ++ a2.extract a1.size (a1.size + 1))] 9)) w.heap.size (w.heap.size + 1 + 1) (oneB m ++ a2.extract a1.size (a1.size + 1)) (oneB m) (by simp) (by omega)
      rw [HCN.out] at h ⊢
      exact h
    · intro h
      simp [Value.ownBlock] at h
    · exact (((Below.refl _ w).alloc (Nat.le_refl _) _).alloc (by simp) _).alloc (by simp; omega) _
  case round =>
    obtain ⟨j, rfl, hj, hT, hK, hne, B, hinj, hnn⟩ := hrel
    have HT := Lib.hid hT
    have HK := Lib.hid hK
    have HNE := Lib.hid hne
    have HINJ := Lib.hid hinj
    have HNN := Lib.hid hnn
    have hBs := B.size
    clear hT hK hne hinj hnn
    by_cases hlt : j < a1.size
    · have e1 : (j : Int) < (a1.size : Int) := by omega
      have e2 : (j : Int) + 1 ≤ (a1.size : Int) := by omega
      have e3 : (j : Int) + 1 ≤ (a2.size : Int) := by omega
      have e4 : (0 : Int) ≤ (j : Int) := by omega
      have e5 : IntKind.i64.wrap ((j : Int) + 1) = (j : Int) + 1 := by rw [IntKind.wrap_i64]; omega
      have e6 : (j : Int) ≤ (j : Int) + 1 := by omega
      have e7 : (0 : Int) ≤ (j : Int) + 1 := by omega
      have e8 : (j : Int) ≤ (a1.size : Int) := by omega
      have e9 : (j : Int) ≤ (a2.size : Int) := by omega
      have e10 : (j : Int) < (a2.size : Int) := by omega
      have e11 : (a1.size : Int) < (a2.size : Int) := by omega
      have HX := Lib.hid (cut_one a1 j hlt)
      have HY := Lib.hid (cut_one a2 j (by omega))
      have HXA := Lib.hid (atB_get a1 j hlt)
      have HYA := Lib.hid (atB_get a2 j (by omega))
      have HZA := Lib.hid (atB_get a2 a1.size hlen)
      obtain ⟨x, hx⟩ : ∃ x, a1[j] = x := ⟨_, rfl⟩
      obtain ⟨y, hy⟩ : ∃ y, a2[j]'(by omega) = y := ⟨_, rfl⟩
      obtain ⟨z, hz⟩ : ∃ z, a2[a1.size] = z := ⟨_, rfl⟩
      have HSA : Hid (∀ (t : ByteArray) (c : UInt8) (r : Bool) (W : World), hasB t c = r → t.size ≤ 1048576 → Calls Try.prog 32 #[.string t, .int .u8 (c.toNat : Int)] W fun e w' => e = .returned (.bool r) ∧ w' = W) := Lib.hid (fun t c r W hr ht => by
        subst hr
        exact (specHasByte t c W (by omega)).mono (fun _ _ ⟨h1, h2⟩ => ⟨h1, h2.symm⟩))
      have z1 : (a1.extract 0 j).size ≤ 1048576 := by rw [ByteArray.size_extract]; omega
      have z2 : (a2.extract 0 j).size ≤ 1048576 := by rw [ByteArray.size_extract]; omega
      by_cases h1 : x = m
      · have g1 : ((x.toNat : Int) == (m.toNat : Int)) = true := by rw [h1]; exact beq_self_eq_true _
        clear h1
        go_wp2_with fail
        go_quiet (fail)
        go_wp2_with fail
        go_ret
        exact ⟨rfl, below_drewN B _⟩
      have g1 : ((x.toNat : Int) == (m.toNat : Int)) = false := beq_eq_false_iff_ne.2 (fun e => h1 (i8_inj e))
      clear h1
      by_cases h2 : hasB (a1.extract 0 j) x = true
      · go_wp2_with fail
        go_quiet ((go_at_call 32; exact Calls.quiet_of_same (HSA.out _ _ _ _ (by assumption) (by assumption))))
        go_wp2_with fail
        go_ret
        exact ⟨rfl, below_drewN B _⟩
      have h2 := eq_false_of_ne_true h2
      by_cases h3 : hasB (a2.extract 0 j) y = true
      · go_wp2_with fail
        go_quiet ((go_at_call 32; exact Calls.quiet_of_same (HSA.out _ _ _ _ (by assumption) (by assumption))))
        go_wp2_with fail
        go_ret
        exact ⟨rfl, below_drewN B _⟩
      have h3 := eq_false_of_ne_true h3
      by_cases h4 : y = z
      · have g4 : ((y.toNat : Int) == (z.toNat : Int)) = true := by rw [h4]; exact beq_self_eq_true _
        clear h4
        go_wp2_with fail
        go_quiet ((go_at_call 32; exact Calls.quiet_of_same (HSA.out _ _ _ _ (by assumption) (by assumption))))
        go_wp2_with fail
        go_ret
        exact ⟨rfl, below_drewN B _⟩
      have g4 : ((y.toNat : Int) == (z.toNat : Int)) = false := beq_eq_false_iff_ne.2 (fun e => h4 (i8_inj e))
      have H4 := Lib.hid h4
      have HH3 := Lib.hid h3
      clear h4
      go_wp2_with fail
      go_quiet ((go_at_call 32; exact Calls.quiet_of_same (HSA.out _ _ _ _ (by assumption) (by assumption))))
      go_wp2_with fail
      have HTq : Hid (OwnS (wr.drewN nq) w.heap.size u10 (pairsF (thereF m a1 a2) (j + 1))) := Lib.hid HT.out
      have HKq : Hid (OwnS (wr.drewN nq) w.heap.size u11 (pairsF (backF m a1 a2) (j + 1))) := Lib.hid HK.out
      have HBq := Lib.hid (below_drewN B nq)
      generalize wr.drewN nq = wq at HTq HKq HBq ⊢
      have hBq : w.heap.size ≤ wq.heap.size := HBq.out.size
      have adj := AD.out j (by omega)
      have ol1 : (pairsF (thereF m a1 a2) (j + 1)).length ≤ 1099511627776 := by rw [pairsF_length]; omega
      have ol2 : (pairsF (backF m a1 a2) (j + 1)).length ≤ 1099511627776 := by rw [pairsF_length]; omega
      clear HSA h2 h3 g1 g4 z1 z2
      go_region_law (
        refine step_str2w rfl (.tmp 94) (.tmp 107) rfl wq.heap.size w.heap.size (pairsF (thereF m a1 a2) (j + 1)).length ?v1 ((pairsF (thereF m a1 a2) (j + 1)).map Value.string) (a1.extract j (j + 1)) ((⟨#[m]⟩ : ByteArray) ++ a2.extract j (j + 1)) ?t1 ?t2 ?qs ?qx ?qb ?qo ol1 ?qh ?qk
        case qs => rfl
        case qx => rfl
        case qb => exact Array.getElem?_push_size
        case qo => exact World.ownsRow.alloc HTq.out _
        case qh => exact Nat.le_trans hBq (by simp)
        intro g2 c2 w2 hown2 hgr hwhere
        have HA := HBq.out.alloc hBq (.cells #[.string (a1.extract j (j + 1)), .string ((⟨#[m]⟩ : ByteArray) ++ a2.extract j (j + 1))] 9)
        have HB2 : Hid (Below w.heap.size w w2) := Lib.hid (below_via hgr HA rfl rfl rfl rfl (Nat.le_trans hBq (by simp)) (fun k hk => (World.ownsRow.lt HTq.out k hk).1))
        have HK2 : Hid (OwnS w2 w.heap.size u11 (pairsF (backF m a1 a2) (j + 1))) := Lib.hid (kept_via (o := .cells #[.string (a1.extract j (j + 1)), .string ((⟨#[m]⟩ : ByteArray) ++ a2.extract j (j + 1))] 9) hgr HKq.out rfl (Ne.symm HNE.out))
        have HN2 : Hid (some g2 ≠ u11.ownBlock) := Lib.hid (ne_step HKq.out HNE.out (hwhere.imp id (fun e => by rw [e]; exact Nat.le_trans (Nat.le_succ _) (by simp))))
        have HO2 : Hid (OwnS w2 w.heap.size (.slice (some ⟨g2, 0, none⟩) ((pairsF (thereF m a1 a2) (j + 1)).length + 2) c2) (pairsF (thereF m a1 a2) (j + 1) ++ [a1.extract j (j + 1), (⟨#[m]⟩ : ByteArray) ++ a2.extract j (j + 1)])) := Lib.hid (OwnS.two (w2 := w2) hown2)
        clear hown2 hgr hwhere HA)
      have hB2 : w.heap.size ≤ w2.heap.size := HB2.out.size
      go_wp2_with fail
      go_region_law (
        refine step_str2w rfl (.tmp 109) (.tmp 122) rfl w2.heap.size w.heap.size (pairsF (backF m a1 a2) (j + 1)).length ?rv1 ((pairsF (backF m a1 a2) (j + 1)).map Value.string) ((⟨#[m]⟩ : ByteArray) ++ a2.extract j (j + 1)) (a1.extract j (j + 1)) ?rt1 ?rt2 ?rqs ?rqx ?rqb ?rqo ol2 ?rqh ?rqk
        case rqs => rfl
        case rqx => rfl
        case rqb => exact Array.getElem?_push_size
        case rqo => exact World.ownsRow.alloc HK2.out _
        case rqh => exact Nat.le_trans hB2 (by simp)
        intro g3 c3 w3 hown3 hgr hwhere
        have HA := HB2.out.alloc hB2 (.cells #[.string ((⟨#[m]⟩ : ByteArray) ++ a2.extract j (j + 1)), .string (a1.extract j (j + 1))] 9)
        have HB3 : Hid (Below w.heap.size w w3) := Lib.hid (below_via hgr HA rfl rfl rfl rfl (Nat.le_trans hB2 (by simp)) (fun k hk => (World.ownsRow.lt HK2.out k hk).1))
        have HO3 : Hid (OwnS w3 w.heap.size (.slice (some ⟨g2, 0, none⟩) ((pairsF (thereF m a1 a2) (j + 1)).length + 2) c2) (pairsF (thereF m a1 a2) (j + 1) ++ [a1.extract j (j + 1), (⟨#[m]⟩ : ByteArray) ++ a2.extract j (j + 1)])) := Lib.hid (kept_via (o := .cells #[.string ((⟨#[m]⟩ : ByteArray) ++ a2.extract j (j + 1)), .string (a1.extract j (j + 1))] 9) hgr (show OwnS w2 w.heap.size _ (pairsF (thereF m a1 a2) (j + 1) ++ [a1.extract j (j + 1), (⟨#[m]⟩ : ByteArray) ++ a2.extract j (j + 1)]) from HO2.out) rfl HN2.out)
        have HN3 : Hid (some g3 ≠ some g2) := Lib.hid (ne_step (v10 := u11) (v11 := .slice (some ⟨g2, 0, none⟩) ((pairsF (thereF m a1 a2) (j + 1)).length + 2) c2) HO2.out (Ne.symm HN2.out) (hwhere.imp id (fun e => by rw [e]; exact Nat.le_trans (Nat.le_succ _) (by simp))))
        have HK3 := Lib.hid (OwnS.two (w2 := w3) hown3)
        clear hown3 hgr hwhere HA)
      go_wp2_with fail
      go_roundw
      case rel =>
        refine ⟨j + 1, by go_num, by omega, ?_, ?_, ?_, HB3.out, ?_, ?_⟩
        · have := HO3.out; rw [HX.out, HY.out] at this; exact this
        · have := HK3.out; rw [HX.out, HY.out] at this; exact this
        · exact fun e => HN3.out e.symm
        · intro p q hp hq e
          by_cases h1 : p = j
          · by_cases h2 : q = j
            · omega
            · subst h1
              exact absurd (e.symm.trans (HYA.out.symm.trans hy)) (noB_at (by omega) HH3.out q (by omega))
          · by_cases h2 : q = j
            · subst h2
              exact absurd (e.trans (HYA.out.symm.trans hy)) (noB_at (by omega) HH3.out p (by omega))
            · exact HINJ.out p q (by omega) (by omega) e
        · intro p hp e
          by_cases h1 : p = j
          · subst h1
            exact H4.out (hy.symm.trans (HYA.out.trans (e.trans (HZA.out.symm.trans hz))))
          · exact HNN.out p (by omega) e
      case measure => simp [RowKit.intOf]; omega
    · obtain rfl : j = a1.size := by omega
      have e1 : ¬ ((a1.size : Int) < (a1.size : Int)) := by omega
      have hT := HT.out
      have hK := HK.out
      obtain ⟨ao, k1, rfl, hcap1, hst1⟩ := hT.form
      obtain ⟨bo, k2, rfl, hcap2, hst2⟩ := hK.form
      have hol1 := pairsF_length (thereF m a1 a2) (a1.size + 1)
      have hol2 := pairsF_length (backF m a1 a2) (a1.size + 1)
      rw [hol1, hol2]
      have hkk1 : ∀ x ∈ pairsF (thereF m a1 a2) (a1.size + 1), x.size ≤ 2147483647 := fun x hx => by have := there_size m a1 a2 _ x hx; omega
      have hkk2 : ∀ x ∈ pairsF (backF m a1 a2) (a1.size + 1), x.size ≤ 2147483647 := fun x hx => by have := back_size m a1 a2 _ x hx; omega
      have hsm := rep_small (M := 2) (there_size m a1 a2 (a1.size + 1)) a3
      have hsm2 : (2 * a3.size + 1) * (2 + 1) ≤ 2097153 * 3 := Nat.mul_le_mul (by omega) (by omega)
      have hesc : rep (prs (pairsF (backF m a1 a2) (a1.size + 1))) true (rep (prs (pairsF (thereF m a1 a2) (a1.size + 1))) true a3.data.toList) = a3.data.toList :=
        esc_back m (bet m a1) (kap a2 a1.size) (a1.size + 1) (by omega) rfl (kap_inj a2 a1.size HINJ.out HNN.out) a3.data.toList
      obtain ⟨got, hgot⟩ : ∃ g : ByteArray, g = ⟨(rep (prs (pairsF (thereF m a1 a2) (a1.size + 1))) true a3.data.toList).toArray⟩ := ⟨_, rfl⟩
      have hgs : got.size ≤ 1073741824 := by rw [hgot, baz]; omega
      have hgl : got.data.toList = rep (prs (pairsF (thereF m a1 a2) (a1.size + 1))) true a3.data.toList := by rw [hgot]
      rw [← hgl] at hesc
      have HRT : Hid (Calls Try.prog 26 #[.slice ao (2 * (a1.size + 1)) k1, .string a3] wr fun e w' => e = .returned (.string got) ∧ Below wr.heap.size wr w') := Lib.hid (by
        rw [hgot]
        exact rpText_even (a1.size + 1) k1 ao _ a3 wr hol1 hst1 (by omega) hkk1 hcap1 (by omega) (by omega))
      have HRI : Hid (∀ W, Below wr.heap.size wr W → Calls Try.prog 21 #[.slice bo (2 * (a1.size + 1)) k2, .string got, .string a3] W fun e w' => e = .returned (.bool true) ∧ Below W.heap.size W w') := Lib.hid (fun W hW =>
        rpIs_yes (a1.size + 1) k2 bo _ got a3 W hol2 (hst2.later hW) (by omega) hkk2 hcap2 hgs (by rw [hesc]; simp; omega) (by rw [hesc]))
      clear hT hK hst1 hst2 hkk1 hkk2 hsm hsm2 hesc hgot hgl HT HK hol1 hol2 hcap1 hcap2 hlt
      go_wp2_with (first
        | (go_at_call 21; have HB2' := HB2; refine (HRI.out _ HB2).mono ?_; rintro e w3 ⟨rfl, HB3⟩)
        | (go_at_call 26; refine HRT.out.mono ?_; rintro e w2 ⟨rfl, HB2⟩))
      go_ret
      exact ⟨rfl, (B.trans (HB2.mono hBs)).trans (HB3.mono (Nat.le_trans hBs HB2.size))⟩
theorem walk_FnEscaped (a0 : Int) (a1 a2 a3 : ByteArray) (w : World) (w0 : (Lit.int .u8 a0).wf = true) (w1 : a1.size ≤ maxLen) (b1 : a1.size ≤ 1048576) (w2 : a2.size ≤ maxLen) (b2 : a2.size ≤ 1048576) (w3 : a3.size ≤ maxLen) (b3 : a3.size ≤ 1048576) :
    Calls Try.prog 13 #[.int .u8 a0, .string a1, .string a2, .string a3] w fun e w' => e = .returned (.bool true) ∧ Below w.heap.size w w' := by
  obtain ⟨m, rfl⟩ : ∃ m : UInt8, a0 = (m.toNat : Int) := by
    have h : 0 ≤ a0 ∧ a0 ≤ 255 := by
      have h1 : decide ((0 : Int) ≤ a0) = true ∧ decide (a0 ≤ (255 : Int)) = true := by simpa [Lit.wf, IntKind.min, IntKind.max, IntKind.signed, IntKind.bits] using w0
      exact ⟨of_decide_eq_true h1.1, of_decide_eq_true h1.2⟩
    exact ⟨UInt8.ofNat a0.toNat, by rw [UInt8.toNat_ofNat']; omega⟩
  exact law_escaped m a1 a2 a3 w b1 b2 b3
end Go.Proofs.Yteajdljmbjdbkaa
