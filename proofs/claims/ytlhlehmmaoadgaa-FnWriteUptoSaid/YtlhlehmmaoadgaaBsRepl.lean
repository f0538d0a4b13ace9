/- (*byteStringReplacer).Replace: each byte by the text that stands for it. -/
import Derived.Test.YtlhlehmmaoadgaaBsPlain
import Derived.Test.YtlhlehmmaoadgaaByteRepl
import Derived.Test.YtlhlehmmaoadgaaTriAdd
import Derived.Deep.DeepCutAuto
import Derived.BigQuiet
import Derived.IntWalk
import Derived.Deep.RegionHeld3
namespace Go.Proofs.Ytlhlehmmaoadgaa
open Go.RowKit Go.Lib
set_option linter.unusedVariables false

def b1' (c : UInt8) : ByteArray := ⟨#[c]⟩
theorem take_count (s : List UInt8) (c : UInt8) (i : Nat) (h : i < s.length) : (s.take (i + 1)).count c = (s.take i).count c + (if s[i] = c then 1 else 0) := by
  rw [List.take_succ_eq_append_getElem h, List.count_append, List.count_singleton]
  simp
theorem occ_one (s : List UInt8) (c : UInt8) (i : Nat) (h : i < s.length) : occAt s [c] i = decide (s[i] = c) := by
  unfold occAt
  rw [List.drop_eq_getElem_cons h]
  rw [Bool.eq_iff_iff, decide_eq_true_iff]
  simp [List.isPrefixOf]
  exact eq_comm
set_option maxHeartbeats 800000 in
theorem countByte (s : ByteArray) (c : UInt8) (hs : s.size < 4611686018427387904) (w : World) :
    Calls Try.prog 58 #[.string s, .string (b1' c)] w fun e w' => e = .returned (.int .i64 (s.data.toList.count c : Nat)) ∧ w = w' := by
  have HB := Lib.hid (show (b1' c).size = 1 from rfl)
  have HL := Lib.hid (show s.data.toList.length = s.size by simp)
  go_enter Try.func58, Try.ntmps58
  go_wp2
  go_loop [5, 6] (fun vn vi => ∃ k : Nat, k ≤ s.size ∧ vi = .int .i64 k ∧ vn = .int .i64 ((s.data.toList.take k).count c : Nat)) (fun _ vi => s.size - (RowKit.intOf vi).toNat)
  case atStart => exact ⟨0, Nat.zero_le _, rfl, by simp⟩
  case round =>
    obtain ⟨k, hk, rfl, rfl⟩ := hrel
    have hcl : (s.data.toList.take k).count c ≤ s.size := by
      have h1 := List.count_le_length (a := c) (l := s.data.toList.take k)
      rw [List.length_take, HL.out] at h1
      omega
    have HC := Lib.hid (fun h => take_count s.data.toList c k h)
    by_cases hlt : k < s.size
    · have h1 : (k : Int) + (b1' c).size ≤ s.size := by have := HB.out; omega
      have h1' : k + (b1' c).size ≤ s.size := by have := HB.out; omega
      have hoc := occ_of_piece s (b1' c) k h1'
      have hk2 : k < s.data.toList.length := by rw [HL.out]; exact hlt
      rw [show (b1' c).data.toList = [c] from rfl, occ_one _ _ _ hk2] at hoc
      by_cases e : s.data.toList[k] = c
      · rw [decide_eq_true e] at hoc
        have HE := Lib.hid e
        have ht := hoc.symm
        clear hoc e
        generalize hg : (s.data.toList.take k).count c = m at *
        have HG := Lib.hid hg
        clear hg
        go_wp2
        go_round
        case rel => exact ⟨k + 1, by omega, by congr 1, by rw [HC.out hk2, if_pos HE.out]; congr 1⟩
        case measure => have := HB.out; simp [RowKit.intOf]; omega
      · rw [decide_eq_false e] at hoc
        have HE := Lib.hid e
        have ht := hoc.symm
        clear hoc e
        generalize hg : (s.data.toList.take k).count c = m at *
        have HG := Lib.hid hg
        clear hg
        go_wp2
        go_round
        case rel => exact ⟨k + 1, by omega, by congr 1, by rw [HC.out hk2, if_neg HE.out]; congr 1⟩
        case measure => simp [RowKit.intOf]; omega
    · have h1 : ¬ ((k : Int) + (b1' c).size ≤ s.size) := by have := HB.out; omega
      have hfull := Lib.hid (List.take_of_length_le (l := s.data.toList) (i := k) (by rw [HL.out]; omega))
      have h2 : (b1' c).size ≤ 1 := by have := HB.out; omega
      clear HC
      go_wp2
      go_ret
      rw [hfull.out]
      exact ⟨by simp, rfl⟩

/-- the texts of a byteStringReplacer, and the list of their bytes -/
structure BsAt (w : World) (rb : Nat) (F : UInt8 → Option (List UInt8)) (a : Option Addr) (ks : List UInt8) : Prop where
  no : ∀ c, F c = none → w.cell? ⟨rb, c.toNat, none⟩ = some (.slice none 0 0)
  yes : ∀ c t, F c = some t → ∃ (x : Addr) (cap : Nat), w.cell? ⟨rb, c.toNat, none⟩ = some (.slice (some x) t.length cap) ∧ ∀ (j : Nat) (y : UInt8), t[j]? = some y → w.cell? (x.add j) = some (.int .u8 (y.toNat : Int))
  list : ∃ cap : Nat, w.cell? ⟨rb, 256, none⟩ = some (.slice a ks.length cap)
  keys : ∀ i (h : i < ks.length), ∃ x, a = some x ∧ w.cell? (x.add i) = some (.string (b1' ks[i]))
  nodup : ks.Nodup
  few : ks.length ≤ 8589934592
  all : ∀ c, F c ≠ none ↔ c ∈ ks
theorem BsAt.hold {w : World} {rb : Nat} {F : UInt8 → Option (List UInt8)} {a : Option Addr} {ks : List UInt8} (h : BsAt w rb F a ks) (c : UInt8) (t : List UInt8) (ht : F c = some t) :
    ∃ (x : Addr) (cap : Nat), w.cell? ⟨rb, c.toNat, none⟩ = some (.slice (some x) t.length cap) ∧ HoldsBytes w (.slice (some x) t.length cap) t := by
  obtain ⟨x, cap, h1, h2⟩ := h.yes c t ht
  exact ⟨x, cap, h1, some x, cap, rfl, (fun e => by cases e), fun b hb j y hy => by obtain rfl := Option.some.inj hb; exact h2 j y hy⟩

def BsCut (w : World) (F : UInt8 → Option (List UInt8)) (s : ByteArray) (v5 v6 : Value) (wc : World) : Prop :=
  ∃ (n : Nat) (b : Bool), wc = w.drewN n ∧ v5 = .int .i64 ((outF F s.data.toList).length : Nat) ∧ v6 = .bool b ∧ (b = false → outF F s.data.toList = s.data.toList)
def Bs1 (w : World) (F : UInt8 → Option (List UInt8)) (ks : List UInt8) (s : ByteArray) (v5 v6 vi : Value) (wr : World) : Prop :=
  ∃ (n q : Nat) (b : Bool), wr = w.drewN n ∧ q ≤ ks.length ∧ vi = .int .i64 q ∧ v5 = .int .i64 ((outF (restr F ks q) s.data.toList).length : Nat) ∧ v6 = .bool b ∧ (b = false → ∀ c ∈ ks.take q, c ∉ s.data.toList)
def Bs2 (w : World) (F : UInt8 → Option (List UInt8)) (s : ByteArray) (v5 v6 vi : Value) (wr : World) : Prop :=
  ∃ (n i : Nat) (b : Bool), wr = w.drewN n ∧ i ≤ s.size ∧ vi = .int .i64 i ∧ v5 = .int .i64 ((outF F (s.data.toList.take i)).length + (s.size - i) : Nat) ∧ v6 = .bool b ∧ (b = false → ∀ c ∈ s.data.toList.take i, F c = none)
def Bs3 (w0 : World) (F : UInt8 → Option (List UInt8)) (s : ByteArray) (N : Nat) (vj vi : Value) (wr : World) : Prop :=
  ∃ (i : Nat), i ≤ s.size ∧ vi = .int .i64 i ∧ vj = .int .i64 ((outF F (s.data.toList.take i)).length : Nat) ∧ Buf w0 wr w0.heap.size N (outF F (s.data.toList.take i))
theorem idx1 (c : UInt8) (w : World) : (Instr.index 9 (.string (b1' c)) (.int .i64 0)).run Try.prog w = .ok (.int .u8 (c.toNat : Int)) w := by
  simp [Instr.index, run_underlying Try.underlying9, asIntOf, b1', go_sem]
  rfl
theorem prod_bounds {n m M : Nat} {t : Nat} (h1 : n ≤ m) (ht : t ≤ M) (hm : m * (M + 1) ≤ 2305843009213693952) : -2305843009213693952 ≤ (n : Int) * ((t : Int) - 1) ∧ (n : Int) * ((t : Int) - 1) ≤ 2305843009213693952 := by
  have e1 : n * t ≤ m * (M + 1) := Nat.mul_le_mul h1 (by omega)
  have e2 : n ≤ m * (M + 1) := Nat.le_trans h1 (Nat.le_mul_of_pos_right _ (by omega))
  have e3 : (n : Int) * ((t : Int) - 1) = (n * t : Nat) - (n : Int) := by rw [Int.mul_sub, Int.mul_one]; push_cast; rfl
  rw [e3]
  omega
theorem Buf.drewN {w0 wr : World} {h N : Nat} {acc : List UInt8} (hb : Buf w0 wr h N acc) (n : Nat) : Buf w0 (wr.drewN n) h N acc := ⟨⟨hb.below.os, hb.below.tape, hb.below.output, hb.below.size, hb.below.block⟩, hb.there, hb.free, hb.holds, hb.fits⟩

set_option maxHeartbeats 3200000 in
set_option maxRecDepth 100000 in
theorem byteStrRepl (rb : Nat) (F : UInt8 → Option (List UInt8)) (a : Option Addr) (ks : List UInt8) (M : Nat) (s : ByteArray) (w : World) (hs : s.size < 4611686018427387904) (hA : BsAt w rb F a ks)
    (hM : ∀ c t, F c = some t → t.length ≤ M) (hsM : s.size * (M + 1) ≤ 2305843009213693952) (hout : (outF F s.data.toList).length ≤ 140737488355328) :
    Calls Try.prog 56 #[.pointer (some ⟨rb, 0, none⟩), .string s] w fun e w' => e = .returned (.string ⟨(outF F s.data.toList).toArray⟩) ∧ Below w.heap.size w w' := by
  have q44 : ∀ (w : World) (a : Option Addr) (n c n' c' : Nat), (binOp .neq 32 (.slice a n c) (.slice none n' c')).run Try.prog w = .ok (.bool (!a.isNone)) w := fun w a n c n' c' => run_neq_slice_nil_any w _ _ a n c n' c' Try.underlying32
  have hnot : ∀ (x : Bool) (w : World), (Op.unary .not (.bool x)).run Try.prog w = .ok (.bool (!x)) w := fun _ _ => rfl
  have HA := Lib.hid hA
  have HM := Lib.hid hM
  have HL := Lib.hid (show s.data.toList.length = s.size by simp)
  have hkl := hA.few
  obtain ⟨capk, hc256⟩ := hA.list
  clear hA hM
  go_enter Try.func56, Try.ntmps56
  go_upto_if 26 with fail
  go_cut [5, 6] (BsCut w F s)
  case first =>
    by_cases hc : ks.length * 8 ≤ s.size
    · have hc' : (ks.length : Int) * 8 ≤ s.size := by omega
      rw [decide_eq_true hc']
      go_wp2_with fail
      go_loopw [5, 6, 32] (Bs1 w F ks s) (fun _ _ vi _ => ks.length - (RowKit.intOf vi).toNat)
      case atStart => exact ⟨0, 0, false, rfl, Nat.zero_le _, rfl, by rw [restr_zero, HL.out], rfl, fun _ c h => by simp at h⟩
      case round =>
        obtain ⟨n, q, b, rfl, hq, rfl, rfl, rfl, hb⟩ := hrel
        have HBn := Lib.hid hb
        clear hb
        have hol := outF_le _ M (restr_le HM.out ks q) s.data.toList
        rw [HL.out] at hol
        by_cases hlt : q < ks.length
        · have i1 : (q : Int) < ks.length := by omega
          obtain ⟨x, rfl, hcell⟩ := HA.out.keys q hlt
          have hne := (HA.out.all ks[q]).2 (List.getElem_mem hlt)
          obtain ⟨t, ht⟩ := Option.ne_none_iff_exists'.1 hne
          obtain ⟨y, capy, hcy, _⟩ := HA.out.yes _ t ht
          have htl := HM.out _ t ht
          have HT := Lib.hid (fun x => (show x ∈ ks.take (q + 1) ↔ x ∈ ks.take q ∨ x = ks[q] by rw [List.take_succ_eq_append_getElem hlt, List.mem_append, List.mem_singleton]))
          have hol2 := outF_le _ M (restr_le HM.out ks (q + 1)) s.data.toList
          rw [HL.out] at hol2
          have hst := restr_step F ks q hlt HA.out.nodup t ht s.data.toList
          have hcl : s.data.toList.count ks[q] ≤ s.size := by
            have h1 := List.count_le_length (a := ks[q]) (l := s.data.toList)
            rw [HL.out] at h1
            exact h1
          obtain ⟨hp1, hp2⟩ := prod_bounds hcl htl hsM
          have hcn := Lib.hid (List.count_eq_zero (a := ks[q]) (l := s.data.toList))
          clear hne ht
          generalize ks[q] = c at *
          generalize hg2 : (outF (restr F ks (q + 1)) s.data.toList).length = o2 at *
          have Hg2 := Lib.hid hg2
          clear hg2
          generalize (outF (restr F ks q) s.data.toList).length = o1 at *
          have HCT := Lib.hid (countByte s c hs (w.drewN n))
          generalize List.count c s.data.toList = cn at *
          generalize t.length = tl at *
          have i5 : (c.toNat : Int) < 256 := by have := c.toNat_lt; omega
          have hix := idx1 c
          have Hst := Lib.hid hst
          have hsum : (o1 : Int) + (cn : Int) * ((tl : Int) - 1) ≤ 2305843009213693952 := by omega
          have hsum0 : 0 ≤ (o1 : Int) + (cn : Int) * ((tl : Int) - 1) := by omega
          clear hst
          by_cases h0 : cn = 0
          · have h0' : (((cn : Nat) : Int) != 0) = false := by rw [h0]; rfl
            have HZ := Lib.hid h0
            clear h0
            go_wp2_with (go_at_call 58; refine HCT.out.mono ?_; rintro e w' ⟨rfl, rfl⟩)
            go_roundw
            case rel =>
              refine ⟨n, q + 1, b, rfl, by omega, by go_num, by have h1 := Hst.out; rw [HZ.out] at h1; rw [Hg2.out]; congr 1; simp at h1; omega, rfl, fun hb x hx => ?_⟩
              rcases (HT.out x).1 hx with h | h
              · exact HBn.out hb x h
              · rw [h]; exact hcn.out.1 HZ.out
            case measure => simp [RowKit.intOf]; omega
          · have h0' : (((cn : Nat) : Int) != 0) = true := by rw [bne_iff_ne]; omega
            have hM1 : M + 1 ≤ s.size * (M + 1) := Nat.le_mul_of_pos_left _ (by omega)
            have htl2 : (tl : Int) ≤ 2305843009213693952 := by omega
            clear hM1 hol hol2 htl
            go_wp2_with (go_at_call 58; refine HCT.out.mono ?_; rintro e w' ⟨rfl, rfl⟩)
            go_quiet (fail)
            go_wp2_with fail
            go_roundw
            case rel => exact ⟨_, q + 1, true, rfl, by omega, by go_num, by have h1 := Hst.out; rw [Hg2.out]; congr 1; omega, rfl, fun hb => by cases hb⟩
            case measure => simp [RowKit.intOf]; omega
        · have i1 : ¬ (q : Int) < ks.length := by omega
          obtain rfl : q = ks.length := by omega
          have HR := Lib.hid (restr_all F ks (fun c h => (HA.out.all c).1 h))
          go_wp2_with fail
          go_meet
          case rel => exact ⟨n, b, rfl, by rw [HR.out], rfl, fun hb => outF_none _ _ (fun c hcs => by
            cases hF : F c with
            | none => rfl
            | some t => exact absurd hcs (HBn.out hb c (by rw [List.take_length]; exact (HA.out.all c).1 (by rw [hF]; simp))))⟩
    · have hc' : ¬ ((ks.length : Int) * 8 ≤ s.size) := by omega
      rw [decide_eq_false hc']
      go_wp2_with fail
      go_loopw [5, 6, 10] (Bs2 w F s) (fun _ _ vi _ => s.size - (RowKit.intOf vi).toNat)
      case atStart => exact ⟨0, 0, false, rfl, Nat.zero_le _, rfl, by simp [outF], rfl, fun _ c h => by simp at h⟩
      case round =>
        obtain ⟨n, i, b, rfl, hi, rfl, rfl, rfl, hb⟩ := hrel
        have HBn := Lib.hid hb
        clear hb
        have hol := outF_mono F s.data.toList i
        by_cases hlt : i < s.size
        · have i1 : (i : Int) < s.size := by omega
          have hil : i < s.data.toList.length := by rw [HL.out]; exact hlt
          have hst := outF_step F s.data.toList i hil
          have hol2 := outF_mono F s.data.toList (i + 1)
          rw [hst, List.length_append, show s.data.toList[i] = s[i] from rfl] at hol2
          have Hst := Lib.hid hst
          have HT := Lib.hid (fun x => (show x ∈ s.data.toList.take (i + 1) ↔ x ∈ s.data.toList.take i ∨ x = s[i] by rw [List.take_succ_eq_append_getElem hil, List.mem_append, List.mem_singleton]; rfl))
          have i5 : (s[i].toNat : Int) < 256 := by have := s[i].toNat_lt; omega
          clear hst
          cases hF : F s[i] with
          | none =>
            have hcy := HA.out.no _ hF
            have htb : tabF F s[i] = [s[i]] := by unfold tabF; rw [hF]; rfl
            rw [htb] at hol2
            have Htb := Lib.hid htb
            have HF := Lib.hid hF
            clear htb hF
            go_wp2_with fail
            go_roundw
            case rel =>
              refine ⟨n, i + 1, b, rfl, by omega, by go_num, ?_, rfl, fun hb x hx => ?_⟩
              · rw [Hst.out, show s.data.toList[i] = s[i] from rfl, Htb.out, List.length_append]
                congr 1
                try (simp; done)
                try (simp; omega)
              · rcases (HT.out x).1 hx with h | h
                · exact HBn.out hb x h
                · rw [h]; exact HF.out
            case measure => simp [RowKit.intOf]; omega
          | some t =>
            obtain ⟨y, capy, hcy, _⟩ := HA.out.yes _ t hF
            have htb : tabF F s[i] = t := by unfold tabF; rw [hF]; rfl
            rw [htb] at hol2
            have Htb := Lib.hid htb
            clear htb hF
            generalize hg : (outF F (s.data.toList.take i)).length = o1 at *
            have Hg := Lib.hid hg
            clear hg
            go_wp2_with fail
            go_roundw
            case rel =>
              refine ⟨n, i + 1, true, rfl, by omega, by go_num, ?_, rfl, fun hb => by cases hb⟩
              rw [Hst.out, show s.data.toList[i] = s[i] from rfl, Htb.out, List.length_append, Hg.out]
              congr 1
              omega
            case measure => simp [RowKit.intOf]; omega
        · have i1 : ¬ (i : Int) < s.size := by omega
          obtain rfl : i = s.size := by omega
          have HF := Lib.hid (List.take_of_length_le (l := s.data.toList) (i := s.size) (Nat.le_of_eq HL.out))
          rw [HF.out] at HBn
          go_wp2_with fail
          go_meet
          case rel => exact ⟨n, b, rfl, by rw [HF.out]; try (first | rfl | (congr 1; omega)), rfl, fun hb => outF_none _ _ (HBn.out hb)⟩
  case rest =>
    obtain ⟨n, b, rfl, rfl, rfl, hb⟩ := hcut
    cases b with
    | false =>
      have HO := Lib.hid (hb rfl)
      clear hb
      go_wp2_with fail
      go_ret
      rw [HO.out]
      exact ⟨rfl, below_drewN (Below.refl _ _) _⟩
    | true =>
      clear hb
      obtain ⟨wn, hwn⟩ : ∃ wn : World, wn = w.drewN n := ⟨_, rfl⟩
      have HA2 : Hid (BsAt wn rb F a ks) := by
        rw [hwn]
        exact Lib.hid ⟨HA.out.no, HA.out.yes, HA.out.list, HA.out.keys, HA.out.nodup, HA.out.few, HA.out.all⟩
      have HBW : Hid (Below w.heap.size w wn) := by rw [hwn]; exact Lib.hid (below_drewN (Below.refl _ _) _)
      rw [← hwn]
      clear hwn HA hc256
      generalize hN : (outF F s.data.toList).length = N at *
      have HN := Lib.hid hN
      clear hN
      have hmk : ∀ u : World, (Instr.makeSlice 32 (.int .i64 (N : Int)) (.int .i64 (N : Int))).run Try.prog u =
          .ok (.slice (some ⟨u.heap.size, 0, none⟩) N N) (u.alloc (.cells (madeCells #[.int .u8 0] N) 5)) := fun u => by
        obtain ⟨i0, hi, hz0, hz1, hz2⟩ := info_parts info8
        have h := run_make (P := Try.prog) u 32 5 i0 (.int .u8 0) Try.underlying32 hi hz0 .i64 .i64 (N : Int) (N : Int) (by omega) (Int.le_refl _) (by rw [hz2]; omega) (by omega)
        simpa [hz1, Value.cells] using h
      go_wp2_with fail
      clear hmk
      have HB0 : Hid (Buf wn (wn.alloc (.cells (madeCells #[.int .u8 0] N) 5)) wn.heap.size N []) := by
        have := Buf.start wn (madeCells #[.int .u8 0] N) 5 N 0 (by simp [madeCells])
        exact Lib.hid ⟨⟨this.below.os, this.below.tape, this.below.output, this.below.size, this.below.block⟩, this.there, this.free, this.holds, this.fits⟩
      generalize wn.alloc (.cells (madeCells #[.int .u8 0] N) 5) = w3 at HB0 ⊢
      go_loopw [13, 14] (Bs3 wn F s N) (fun _ vi _ => s.size - (RowKit.intOf vi).toNat)
      case atStart => exact ⟨0, Nat.zero_le _, rfl, rfl, HB0.out⟩
      case round =>
        clear HB0
        obtain ⟨i, hi, rfl, rfl, hB⟩ := hrel
        have HB := Lib.hid hB
        have hfits := hB.fits
        clear hB
        by_cases hlt : i < s.size
        · have i1 : (i : Int) < s.size := by omega
          have hil : i < s.data.toList.length := by rw [HL.out]; exact hlt
          have hst := outF_step F s.data.toList i hil
          have hol2 := outF_mono F s.data.toList (i + 1)
          rw [HN.out] at hol2
          rw [hst, List.length_append, show s.data.toList[i] = s[i] from rfl] at hol2
          have Hst := Lib.hid hst
          have i5 : (s[i].toNat : Int) < 256 := by have := s[i].toNat_lt; omega
          clear hst
          generalize hacc : outF F (s.data.toList.take i) = acc at *
          have Hacc := Lib.hid hacc
          clear hacc
          cases hF : F s[i] with
          | none =>
            have hcy := Lib.Below.cellOf HB.out.below (HA2.out.no _ hF) (Nat.le_refl _)
            have htb : tabF F s[i] = [s[i]] := by unfold tabF; rw [hF]; rfl
            rw [htb] at hol2
            have Htb := Lib.hid htb
            have hlt2 : acc.length < N := by simp at hol2; omega
            have HP := Lib.hid (buf_put HB.out hlt2 s[i])
            have hfz := HB.out.free acc.length hlt2
            obtain ⟨v0, hv0⟩ := Option.isSome_iff_exists.1 (HB.out.there acc.length hlt2)
            clear htb hF
            go_wp2_with fail
            go_roundw
            case rel =>
              refine ⟨i + 1, by omega, by go_num, ?_, ?_⟩
              · rw [Hst.out, show s.data.toList[i] = s[i] from rfl, Htb.out, List.length_append]; rfl
              · rw [Hst.out, show s.data.toList[i] = s[i] from rfl, Htb.out]; exact HP.out
            case measure => simp [RowKit.intOf]; omega
          | some t =>
            obtain ⟨y, capy, hcy0, hHB⟩ := HA2.out.hold _ t hF
            have hcy := Lib.Below.cellOf HB.out.below hcy0 (Nat.le_refl _)
            have htb : tabF F s[i] = t := by unfold tabF; rw [hF]; rfl
            rw [htb] at hol2
            have Htb := Lib.hid htb
            have hsl : ∀ W, (Instr.slice 32 (.slice (some ⟨wn.heap.size, 0, none⟩) N N) (some (.int .i64 (acc.length : Int))) none none).run Try.prog W = .ok (Lib.tailV wn.heap.size N acc.length) W := fun W => Lib.run_slice_tailV W 32 5 Try.underlying32 (fun w => by kernel_rfl) _ N acc.length (by omega)
            have HBd : Buf wn wr.drew wn.heap.size N acc := Buf.drewN HB.out 1
            obtain ⟨w2, hr2, B2⟩ := Lib.copy_part (P := Try.prog) wn wr.drew wn.heap.size N acc t (.slice (some y) t.length capy) 32 3 5 Try.underlying32 (by kernel_rfl) (Nat.le_refl _) HBd hHB (by omega)
            have HP := Lib.hid B2
            have hcy2 := Lib.Below.cellOf B2.below hcy0 (Nat.le_refl _)
            have hsum : (acc.length : Int) + (t.length : Int) ≤ 140737488355328 := by omega
            clear htb hF HBd hHB hcy0 B2
            go_wp2_with fail
            have hwr : IntKind.i64.wrap ((acc.length : Int) + (t.length : Int)) = (acc.length : Int) + (t.length : Int) := IntWalk.i64_in _ (by omega)
            go_region_held3 (fun w' => w'.cell? ⟨rb, s[i].toNat, none⟩ = some (.slice (some y) t.length capy)) (go_keep) (fail)
            clear hwr
            go_wp2_with fail
            go_roundw
            case rel =>
              refine ⟨i + 1, by omega, by go_num, ?_, ?_⟩
              · rw [Hst.out, show s.data.toList[i] = s[i] from rfl, Htb.out, List.length_append]; first | rfl | (congr 1; omega)
              · rw [Hst.out, show s.data.toList[i] = s[i] from rfl, Htb.out]; exact HP.out
            case measure => simp [RowKit.intOf]; omega
        · have i1 : ¬ (i : Int) < s.size := by omega
          obtain rfl : i = s.size := by omega
          have HF := Lib.hid (List.take_of_length_le (l := s.data.toList) (i := s.size) (Nat.le_of_eq HL.out))
          rw [HF.out, HN.out]
          rw [HF.out] at HB
          have hrow : Row wr wn.heap.size 0 ⟨(outF F s.data.toList).toArray⟩ := fun k hk => by
            have hk2 : k < (outF F s.data.toList).length := hk
            rw [Nat.zero_add, HB.out.holds k ((outF F s.data.toList)[k]) (List.getElem?_eq_getElem hk2)]
            rfl
          have hsz : (⟨(outF F s.data.toList).toArray⟩ : ByteArray).size = N := by rw [← HN.out]; rfl
          have hbk := hback wr wn.heap.size 0 N _ hrow
          rw [hsz] at hbk
          have HBB := Lib.hid (HBW.out.trans (HB.out.below.mono HBW.out.size))
          clear hrow hsz
          go_wp2_with fail
          go_ret
          exact ⟨rfl, HBB.out⟩
end Go.Proofs.Ytlhlehmmaoadgaa
