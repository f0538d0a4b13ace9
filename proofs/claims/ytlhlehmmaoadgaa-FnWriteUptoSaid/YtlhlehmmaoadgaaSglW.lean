/- The replacer of a single text writes to a sink. -/
import Derived.Test.YtlhlehmmaoadgaaSgl
import Derived.Test.YtlhlehmmaoadgaaGenRepl
import Derived.Test.YtlhlehmmaoadgaaSnk
import Derived.IntWalk
namespace Go.Proofs.Ytlhlehmmaoadgaa
open Go.RowKit Go.Lib
set_option linter.unusedVariables false
theorem SglAt.val {w : World} {B rb : Nat} {p v : ByteArray} (h : SglAt w B rb p v) : w.cell? ⟨rb, 1, none⟩ = some (.string v) := by
  obtain ⟨_, _, _, _, _, c1, _⟩ := h
  exact c1
def SkRel (w : World) (B q : Nat) (p v s : ByteArray) (v6 v7 v9 : Value) (wr : World) : Prop :=
  ∃ (i : Nat) (acc : List UInt8), v6 = .int .i64 (acc.length : Nat) ∧ v7 = .nilIface ∧ v9 = .int .i64 i ∧ i ≤ s.size ∧ Snk wr B q acc ∧ Bex B q w wr ∧
    acc ++ rep [(p.data.toList, v.data.toList)] true (s.data.toList.drop i) = rep [(p.data.toList, v.data.toList)] true s.data.toList
def WsPost (w0 : World) (B q : Nat) (R : List UInt8) (e : Ending) (w' : World) : Prop :=
  e = .returned (.tuple #[.int .i64 R.length, .nilIface]) ∧ Snk w' B q R ∧ Bex B q w0 w'
set_option maxHeartbeats 6400000 in
set_option maxRecDepth 100000 in
theorem sglWriteSnk (rb B q lo : Nat) (p v s : ByteArray) (w : World) (hq : q < lo) (hp : 1 ≤ p.size) (hps : p.size < 2147483648) (hvs : v.size < 2147483648) (hs : s.size < 2147483648) (hS : ∀ w2, AgreeOn lo B w w2 → SglAt w2 B rb p v) (hA : Snk w B q []) (hBw : B ≤ w.heap.size)
    (hout : (rep [(p.data.toList, v.data.toList)] true s.data.toList).length ≤ 35184372088832) :
    Calls Try.prog 41 #[.pointer (some ⟨rb, 0, none⟩), .iface 31 (.pointer (some ⟨q, 0, none⟩)), .string s] w (WsPost w B q (rep [(p.data.toList, v.data.toList)] true s.data.toList)) := by
  have hah := aheadSw
  have hmt := methSw
  have hmf : ∀ (fn : Fn) (first cap : Array Value) (w : World), (Instr.makeFunc fn first cap).run Try.prog w = .ok (.func fn first cap) w := fun _ _ _ _ => rfl
  have hnot : ∀ (x : Bool) (w : World), (Op.unary .not (.bool x)).run Try.prog w = .ok (.bool (!x)) w := fun _ _ => rfl
  have HS := Lib.hid hS
  have HO := Lib.hid hout
  have HA0 := Lib.hid hA
  have HSL := Lib.hid (show s.data.toList.length = s.size by simp)
  have HPL := Lib.hid (show p.data.toList.length = p.size by simp)
  have HVL := Lib.hid (show v.data.toList.length = v.size by simp)
  clear hS hout hA
  go_enter Try.func41, Try.ntmps41
  go_wp2_with (go_at_call 46; refine (getSwSnk q _).mono ?_; rintro e w' ⟨rfl, rfl⟩)
  go_loopw [6, 7, 9] (SkRel w B q p v s) (fun _ _ vi _ => s.size - (RowKit.intOf vi).toNat)
  case atStart => exact ⟨0, [], rfl, rfl, rfl, Nat.zero_le _, HA0.out, Bex.refl _ _ _, by simp⟩
  case round =>
    clear HA0
    obtain ⟨i, acc, rfl, rfl, rfl, hi, hsnk, hB, hacc⟩ := hrel
    obtain ⟨fb, tb, bad, far, c0, c1, R, hr1, hr2, hr3⟩ := HS.out _ (hB.agree hq)
    have HR := Lib.hid R
    have HK := Lib.hid hsnk
    have HB := Lib.hid hB
    have hBs : B ≤ wr.heap.size := Nat.le_trans hBw hB.size
    have hcut : ∀ w, (Instr.slice 9 (.string s) (some (.int .i64 (i : Int))) none none).run Try.prog w = .ok (.string (s.extract i s.size)) w := fun w => by simp [go_sem, Try.underlying9, hi]
    have hsd : (s.extract i s.size).data.toList = s.data.toList.drop i := by rw [Lib.extract_to_end]
    have hes : (s.extract i s.size).size = s.size - i := by simp
    have hep : p.data.toList ≠ [] := fun e => by have := HPL.out; rw [e] at this; simp at this; omega
    obtain ⟨hn1, hn2⟩ := rep_single (n := v.data.toList) hep (s.data.toList.drop i)
    have hge := index_ge (s.data.toList.drop i) p.data.toList
    clear R hsnk hB
    by_cases hidx : index (s.data.toList.drop i) p.data.toList = -1
    · have hfin := hn1 hidx
      rw [hfin] at hacc
      have HA := Lib.hid hacc
      have HI : Hid (index (s.extract i s.size).data.toList p.data.toList = -1) := by rw [hsd]; exact Lib.hid hidx
      have hlen : acc.length + (s.size - i) ≤ 35184372088832 := by
        have := HO.out
        rw [← hacc, List.length_append, List.length_drop, HSL.out] at this
        exact this
      obtain ⟨t, ht⟩ : ∃ t, t = s.extract i s.size := ⟨_, rfl⟩
      rw [← ht] at hcut HI hsd hes
      have HSD := Lib.hid hsd
      have htz : t.size < 4294967296 := by omega
      have hbz : acc.length + t.size ≤ 140737488355328 := by omega
      have hbz2 : (acc.length : Int) + t.size ≤ 140737488355328 := by omega
      have i1 : ((-1 : Int) == -1) = true := rfl
      clear hn1 hn2 hge hidx hfin hacc hsd hes ht hep
      go_wp2_with fail
      go_region_held3 (fun w' => w'.cell? ⟨rb, 0, none⟩ = some (.pointer (some ⟨fb, 0, none⟩))) (go_keep) ((go_at_call 42; refine (next_any fb tb p t bad far hp (by omega) htz _ (HR.out.lower (below_drewN (Below.refl B wr) _) hr2 hr3)).mono ?_; rw [HI.out]; rintro e w3 ⟨rfl, k, rfl⟩))
      go_wp2_with fail
      go_region_held3 (fun w' => True) (trivial) ((go_at_call 62; refine (swWrite B q acc t _ (HK.out.drewN _) hbz hBs).mono ?_; rintro e w3 ⟨rfl, hA3, hB3⟩))
      go_wp2_with fail
      go_ret2
      rw [← HA.out, ← HSD.out]
      refine ⟨?_, hA3, (bex_drewN HB.out _).trans hB3⟩
      rw [List.length_append, show t.data.toList.length = t.size by simp]
      push_cast
      rfl
    · obtain ⟨k0, hk0⟩ : ∃ k0 : Nat, index (s.data.toList.drop i) p.data.toList = (k0 : Int) := ⟨(index (s.data.toList.drop i) p.data.toList).toNat, by omega⟩
      obtain ⟨h1, h2⟩ := hn2 k0 hk0
      rw [List.length_drop, HSL.out, HPL.out] at h1
      rw [HPL.out] at h2
      have HI : Hid (index (s.extract i s.size).data.toList p.data.toList = (k0 : Int)) := by rw [hsd]; exact Lib.hid hk0
      have hlen : acc.length + (k0 + v.size) ≤ 35184372088832 := by
        have := HO.out
        rw [← hacc, h2, List.length_append, List.length_append, List.length_append, List.length_take, List.length_drop, HSL.out, HVL.out] at this
        omega
      obtain ⟨t, ht⟩ : ∃ t, t = s.extract i s.size := ⟨_, rfl⟩
      rw [← ht] at hcut HI hsd hes
      obtain ⟨u, hu⟩ : ∃ u, u = s.extract i (i + k0) := ⟨_, rfl⟩
      have hmid : ∀ w, (Instr.slice 9 (.string s) (some (.int .i64 (i : Int))) (some (.int .i64 ((i : Int) + (k0 : Int)))) none).run Try.prog w = .ok (.string u) w := fun w => by
        have e1 : i + k0 ≤ s.size := by omega
        have e2 : ((i : Int) + (k0 : Int)).toNat = i + k0 := by omega
        have e3 : (i : Int) + (k0 : Int) = ((i + k0 : Nat) : Int) := by push_cast; rfl
        have a1 : (0 : Int) ≤ (i : Int) + (k0 : Int) ∧ (i : Int) + (k0 : Int) ≤ (s.size : Int) := by omega
        have a2 : (i : Int) ≤ (i : Int) + (k0 : Int) := by omega
        rw [hu]
        simp [go_sem, Try.underlying9, a1, a2, e2]
      have hud : u.data.toList = (s.data.toList.drop i).take k0 := by rw [hu]; simp [ByteArray.data_extract]
      have huz : u.size = k0 := by rw [hu]; simp; omega
      have HUZ := Lib.hid huz
      have hacc2 : acc ++ u.data.toList ++ v.data.toList ++ rep [(p.data.toList, v.data.toList)] true (s.data.toList.drop (i + (k0 + p.size))) = rep [(p.data.toList, v.data.toList)] true s.data.toList := by
        rw [← hacc, h2, hud, List.drop_drop]
        simp only [List.append_assoc]
      have REL : ∀ w', Snk w' B q (acc ++ u.data.toList ++ v.data.toList) → Bex B q w w' → SkRel w B q p v s (.int .i64 ((acc.length : Int) + (u.size : Int) + (v.size : Int))) .nilIface (.int .i64 ((i : Int) + ((k0 : Int) + (p.size : Int)))) w' := fun w' a1 a2 =>
        ⟨i + (k0 + p.size), _, by rw [List.length_append, List.length_append, show u.data.toList.length = u.size by simp, show v.data.toList.length = v.size by simp]; push_cast; rfl, rfl, by push_cast; rfl, by omega, a1, a2, hacc2⟩
      have HREL := Lib.hid REL
      have htz : t.size < 4294967296 := by omega
      have hbu : acc.length + u.size ≤ 140737488355328 := by omega
      have hbv : (acc ++ u.data.toList).length + v.size ≤ 140737488355328 := by
        rw [List.length_append, show u.data.toList.length = u.size by simp]; omega
      have hbi : (acc.length : Int) + u.size ≤ 140737488355328 := by omega
      have hbj : (acc.length : Int) + u.size + v.size ≤ 140737488355328 := by omega
      have i1 : ((k0 : Int) == -1) = false := beq_eq_false_iff_ne.2 (by omega)
      have hki : (i : Int) + ((k0 : Int) + (p.size : Int)) ≤ s.size := by omega
      have HP1 := Lib.hid hp
      clear REL hn1 hn2 hge hidx hk0 h1 h2 hacc hacc2 hsd hes ht hep hud huz hu hlen
      go_wp2_with fail
      go_region_held3 (fun w' => w'.cell? ⟨rb, 0, none⟩ = some (.pointer (some ⟨fb, 0, none⟩))) (go_keep) ((go_at_call 42; refine (next_any fb tb p t bad far hp (by omega) htz _ (HR.out.lower (below_drewN (Below.refl B wr) _) hr2 hr3)).mono ?_; rw [HI.out]; rintro e w3 ⟨rfl, k, rfl⟩))
      go_wp2_with fail
      have hwr : IntKind.i64.wrap ((i : Int) + (k0 : Int)) = (i : Int) + (k0 : Int) := IntWalk.i64_in _ (by omega)
      go_region_held3 (fun w' => True) (trivial) ((go_at_call 62; refine (swWrite B q acc u _ (HK.out.drewN _) hbu hBs).mono ?_; rintro e w5 ⟨rfl, hA5, hB5⟩))
      have hW5 : Bex B q w w5 := (bex_drewN HB.out _).trans hB5
      have hBs5 : B ≤ w5.heap.size := Nat.le_trans hBw hW5.size
      have c15 := (HS.out _ (hW5.agree hq)).val
      have HW5 := Lib.hid hW5
      have HA5 := Lib.hid hA5
      clear hW5 hA5 hB5 c1 c0
      go_wp2_with fail
      go_region_held3 (fun w' => w'.cell? ⟨rb, 1, none⟩ = some (.string v)) (go_keep) ((go_at_call 62; refine (swWrite B q (acc ++ u.data.toList) v _ (HA5.out.drewN _) hbv hBs5).mono ?_; rintro e w6 ⟨rfl, hA6, hB6⟩; have hW6 : Bex B q w w6 := (bex_drewN HW5.out _).trans hB6; have c16 := (HS.out _ (hW6.agree hq)).val))
      obtain ⟨fb6, _, _, _, c06, _, R6, _, _, _⟩ := HS.out _ (hW6.agree hq)
      have cp6 := R6.fin.pat
      have HW6 := Lib.hid hW6
      have HA6 := Lib.hid hA6
      clear hW6 hA6 hB6 R6 c15
      go_wp2_with fail
      go_roundw
      case rel => exact HREL.out _ HA6.out HW6.out
      case measure => have := HP1.out; simp [RowKit.intOf]; omega
end Go.Proofs.Ytlhlehmmaoadgaa
