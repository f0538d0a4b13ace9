/- A strings.Builder that the call itself has made: copyCheck, WriteString, Grow (written already or not). (After the library's own walks of these, turned to this program.) String: the library's contract (Shelf). -/
import Derived.Test.YtlhlehmmaoadgaaShelf
import Derived.Test.YtlhlehmmaoadgaaOwnB
import Derived.WalkLawsBesides
import Derived.BigCall
import Derived.BigGuard
import Derived.BigQuiet
import Derived.Deep.QuietTactic
import Derived.Deep.RegionHeld3
import Derived.Lib.Hide
import Derived.Lib.Walk
import Derived.Lib.Builder
import Derived.Lib.MakeNoZero
import Derived.Laws.CopyOwn
import Derived.Shelf.Strings.Builder2
import Derived.IntWalk
import Derived.Outline
import Derived.Lib.SlBytesConst
import Derived.Lib.IndexBytes
namespace Go.Proofs.Ytlhlehmmaoadgaa
open Go.RowKit Go.Lib
set_option linter.unusedVariables false

theorem below_drewN {B : Nat} {a w : World} (h : Below B a w) (n : Nat) : Below B a (w.drewN n) := ⟨h.os, h.tape, h.output, h.size, h.block⟩
/-- a builder of the call's own that holds these bytes -/
def Bld (w : World) (B b : Nat) (acc : List UInt8) : Prop := Lib.IsBuilder 100 5 B b (byteCells acc) w
def BldUsed (w : World) (B b : Nat) (acc : List UInt8) : Prop := Lib.BuilderAt 100 5 B b (.pointer (some ⟨b, 0, none⟩)) (byteCells acc) w
theorem Bld.new (w : World) : Bld (w.alloc (.cells #[.pointer none, .slice none 0 0] 100)) w.heap.size w.heap.size [] := Lib.fresh_isBuilder _ _ w
theorem Bld.drewN {w : World} {B b : Nat} {acc : List UInt8} (h : Bld w B b acc) (n : Nat) : Bld (w.drewN n) B b acc := h
theorem cell1_of {w : World} {b : Nat} {p v : Value} {T : TypeId} {fr : Nat × Nat} (hb : w.heap[b]? = some (.cells #[p, v] T fr)) : w.cell? ⟨b, 1, none⟩ = some v := by rw [Lib.cell_of_heap hb]; rfl
theorem infoBld : (Try.prog.info? 100).map (·.size) = some 2 := by kernel_rfl
theorem BuilderAt.drew' {T e : TypeId} {B b : Nat} {p : Value} {bs : List Value} {w : World} (h : Lib.BuilderAt T e B b p bs w) : Lib.BuilderAt T e B b p bs w.drew := h
theorem BuilderAt.drewN {T e : TypeId} {B b : Nat} {p : Value} {bs : List Value} {w : World} (h : Lib.BuilderAt T e B b p bs w) (n : Nat) : Lib.BuilderAt T e B b p bs (w.drewN n) := h
theorem BldUsed.bld {w : World} {B b : Nat} {acc : List UInt8} (h : BldUsed w B b acc) : Bld w B b acc := .inr h

set_option maxHeartbeats 1000000 in
set_option maxRecDepth 100000 in
theorem copyCheck_used (b : Nat) (w : World) (h0 : w.cell? ⟨b, 0, none⟩ = some (.pointer (some ⟨b, 0, none⟩))) :
    Calls Try.prog 47 #[.pointer (some ⟨b, 0, none⟩)] w fun e w' => e = .returned (.tuple #[]) ∧ w = w' := by
  obtain ⟨j, hj, _⟩ := Option.map_eq_some_iff.1 infoBld
  go_enter Try.func47, Try.ntmps47
  go_wp2
  rw [Lib.run_neq_ptr_same w _ Try.underlying98 hj]
  go_wp2
  go_end0
  exact ⟨rfl, rfl⟩
set_option maxHeartbeats 1000000 in
set_option maxRecDepth 100000 in
theorem copyCheck_fresh (b : Nat) (w : World) (h0 : w.cell? ⟨b, 0, none⟩ = some (.pointer none)) (hsh : w.shape? b = some (100, 2)) (hfz : w.frozen? ⟨b, 0, none⟩ = false) :
    Calls Try.prog 47 #[.pointer (some ⟨b, 0, none⟩)] w fun e w' => e = .returned (.tuple #[]) ∧ w' = w.setCell ⟨b, 0, none⟩ (.pointer (some ⟨b, 0, none⟩)) := by
  obtain ⟨j, hj, hjs⟩ := Option.map_eq_some_iff.1 infoBld
  go_enter Try.func47, Try.ntmps47
  go_wp2
  rw [Lib.run_to_unsafe w ⟨b, 0, none⟩ Try.underlying98 Try.underlying110 hj (by rw [hjs]; decide) hsh (Nat.zero_lt_succ 1)]
  simp only [Result.andThen]
  rw [Oper.upon_value]
  go_wp2
  rw [run_callFunc_extern Try.func49 (by kernel_rfl) (by kernel_rfl) (by kernel_rfl) (e := Extern.AbiNoEscape.same) (by kernel_rfl)]
  rw [Lib.run_noEscape]
  simp only [Result.andThen]
  rw [Oper.upon_value]
  go_wp2
  rw [Lib.run_from_unsafe w ⟨b, 0, none⟩ Try.underlying110 Try.underlying98 hj hsh (by kernel_rfl)]
  simp only [Result.andThen]
  rw [Oper.upon_value]
  go_wp2
  go_end0
  exact ⟨rfl, rfl⟩
theorem bldCheck (B b : Nat) (acc : List UInt8) (w : World) (h : Bld w B b acc) :
    Calls Try.prog 47 #[.pointer (some ⟨b, 0, none⟩)] w fun e w' => e = .returned (.tuple #[]) ∧ BldUsed w' B b acc ∧ Below B w w' := by
  rcases h with h | h
  · refine (copyCheck_fresh b w h.cell0 h.shape h.frozen0).mono ?_
    rintro e w' ⟨rfl, rfl⟩
    exact ⟨rfl, h.used _, (Below.refl B w).setCell (p := ⟨b, 0, none⟩) h.1 _⟩
  · refine (copyCheck_used b w h.cell0).mono ?_
    rintro e w' ⟨rfl, rfl⟩
    exact ⟨rfl, h, Below.refl B _⟩
theorem own_of_bld {w : World} {B : Nat} {v : Value} {acc : List UInt8} (h : w.ownsRow B 5 1 v (byteCells acc).length (byteCells acc)) : OwnB w B v acc := by
  rw [byteCells_length] at h; exact h
theorem bld_of_own {w : World} {B : Nat} {v : Value} {acc : List UInt8} (h : OwnB w B v acc) : w.ownsRow B 5 1 v (byteCells acc).length (byteCells acc) := by
  rw [byteCells_length]; exact h

set_option maxHeartbeats 1600000 in
set_option maxRecDepth 100000 in
theorem bldWrite (B b : Nat) (acc : List UInt8) (s : ByteArray) (w : World) (h : Bld w B b acc) (hn : acc.length + s.size ≤ 140737488355328) (hBw : B ≤ w.heap.size) :
    Calls Try.prog 44 #[.pointer (some ⟨b, 0, none⟩), .string s] w fun e w' => e = .returned (.tuple #[.int .i64 s.size, .nilIface]) ∧ BldUsed w' B b (acc ++ s.data.toList) ∧ Below B w w' := by
  have HH := Lib.hid h
  clear h
  go_enter Try.func44, Try.ntmps44
  go_wp2_with (go_at_call 47; refine (bldCheck B b acc _ HH.out).mono ?_)
  rintro e w1 ⟨rfl, ⟨hB, v, hbk, hown0, hne⟩, hb1⟩
  have hown := own_of_bld hown0
  have c1 : w1.cell? ⟨b, 1, none⟩ = some v := by rw [Lib.cell_of_heap hbk]; rfl
  have hlt : b < w1.heap.size := (Array.getElem?_eq_some_iff.1 hbk).1
  have HOWN := Lib.hid hown
  have HBK := Lib.hid hbk
  have HNE := Lib.hid hne
  have hBw1 : B ≤ w1.heap.size := Nat.le_trans hBw hb1.size
  have HB1 := Lib.hid hb1
  clear hown hown0 hbk hne hb1
  go_wp2_with (at_builtin; refine appB_str (by rfl) _ _ 32 Try.underlying32 (by rfl) _ B v acc s (by rfl) (by rfl) HOWN.out hn hBw1 ?_; intro v' w2 hown' hgr; obtain ⟨ao, n', cap, rfl⟩ := hown'.form; have hb2 : w2.heap[b]? = some (.cells #[.pointer (some ⟨b, 0, none⟩), v] 100 (0, 0)) := (hgr.block b hlt (fun e => HNE.out e.symm)).trans HBK.out; have d1 : w2.cell? ⟨b, 1, none⟩ = some v := cell1_of hb2; have f1 : w2.frozen? ⟨b, 1, none⟩ = false := Lib.frozen_of_heap hb2 1; have HP : Hid (BldUsed (w2.setCell ⟨b, 1, none⟩ (.slice ao n' cap)) B b (acc ++ s.data.toList)) := Lib.hid (Lib.BuilderAt.put hB hb2 (bld_of_own hown') (by decide)); have HB2 := Lib.hid ((below_appB HB1.out HOWN.out (Nat.le_refl _) hBw1 hgr).setCell (p := ⟨b, 1, none⟩) hB (.slice ao n' cap)); clear hown' hgr hb2)
  go_ret2
  exact ⟨rfl, HP.out, HB2.out⟩

theorem OwnB.drewN {w : World} {base : Nat} {v : Value} {acc : List UInt8} (h : OwnB w base v acc) (n : Nat) : OwnB (w.drewN n) base v acc := h
theorem infoU8s : (Try.prog.info? 5).map (·.size) = some 1 := by kernel_rfl
set_option maxHeartbeats 4000000 in
set_option maxRecDepth 1000000 in
theorem bldGrow0 (B b n cap : Nat) (ao : Option Addr) (acc : List UInt8) (w : World) (hB : B ≤ b) (hbk : w.heap[b]? = some (.cells #[.pointer (some ⟨b, 0, none⟩), .slice ao acc.length cap] 100 (0, 0))) (hown : OwnB w B (.slice ao acc.length cap) acc)
    (hcap : 2 * cap + n ≤ 281474976710656) (hlen : acc.length ≤ 2 * cap + n) (hBw : B ≤ w.heap.size) :
    Calls Try.prog 48 #[.pointer (some ⟨b, 0, none⟩), .int .i64 n] w fun e w' => e = .returned (.tuple #[]) ∧ BldUsed w' B b acc ∧ Below B w w' := by
  obtain ⟨cs, hrun, hle, hmax⟩ := Lib.run_makeNoZero (P := Try.prog) w.drew #[3] 32 5 Try.underlying32 (2 * cap + n) hcap
  have hcm := hmax (by unfold maxLen; omega)
  have hcall : (callFunc 50 #[.int .i64 (2 * (cap : Int) + (n : Int))]).run Try.prog w.drew = .ok (.value (.slice (some ⟨w.heap.size, 0, none⟩) (2 * cap + n) cs.size)) (w.drew.drew.drew.alloc (.cells cs 5)) := by
    have e : (2 * (cap : Int) + (n : Int)) = ((2 * cap + n : Nat) : Int) := by push_cast; rfl
    rw [e, run_callFunc_extern Try.func50 (by kernel_rfl) (by kernel_rfl) (by kernel_rfl) (e := Extern.BytealgMakeNoZero.makeNoZero #[3] #[32]) (by kernel_rfl), hrun]
    rfl
  have hlt : b < w.heap.size := (Array.getElem?_eq_some_iff.1 hbk).1
  have c1 : w.drew.cell? ⟨b, 1, none⟩ = some (.slice ao acc.length cap) := by
    have : w.drew.heap[b]? = _ := hbk
    rw [Lib.cell_of_heap this]; rfl
  have hb2 : (w.alloc (.cells cs 5)).heap[b]? = _ := (Lib.alloc_old w _ b hlt).trans hbk
  have c2 : (w.alloc (.cells cs 5)).cell? ⟨b, 1, none⟩ = some (.slice ao acc.length cap) := by rw [Lib.cell_of_heap hb2]; rfl
  have x1 : IntKind.i64.wrap (2 * (cap : Int)) = 2 * (cap : Int) := IntWalk.i64_in _ (by omega)
  have x2 : IntKind.i64.wrap (2 * (cap : Int) + (n : Int)) = 2 * (cap : Int) + (n : Int) := IntWalk.i64_in _ (by omega)
  have hsl : ∀ W, (Instr.slice 32 (.slice (some ⟨w.heap.size, 0, none⟩) (2 * cap + n) cs.size) none (some (.int .i64 (acc.length : Int))) none).run Try.prog W = .ok (.slice (some ⟨w.heap.size, 0, none⟩) acc.length cs.size) W := fun W => by
    have h1 : acc.length ≤ cs.size := by omega
    simp [go_sem, Try.underlying32, h1]
  have HOWN := Lib.hid hown
  have HBK := Lib.hid hbk
  have HLE := Lib.hid hle
  have HLEN := Lib.hid hlen
  clear hown hbk hb2 hrun hmax hle hlen
  go_enter Try.func48, Try.ntmps48
  go_wp2_with fail
  go_region_held3 (fun w' => w'.cell? ⟨b, 1, none⟩ = some (.slice ao acc.length cap)) (go_keep) (fail)
  clear hcall hsl x1 x2
  have hg3 : (w.alloc (.cells cs 5)).drew.drew.drew.heap[w.heap.size]? = some (.cells cs.toList.toArray 5 (0, 0)) := by
    rw [Array.toArray_toList]
    exact heap_alloc_new w _
  have hB3 : Below B w (w.alloc (.cells cs 5)).drew.drew.drew := ((((Below.refl B w).alloc hBw _).drew).drew).drew
  have c3 : (w.alloc (.cells cs 5)).drew.drew.drew.cell? ⟨b, 1, none⟩ = some (.slice ao acc.length cap) := c2
  have hbk3 : (w.alloc (.cells cs 5)).drew.drew.drew.heap[b]? = some (.cells #[.pointer (some ⟨b, 0, none⟩), .slice ao acc.length cap] 100 (0, 0)) := (Lib.alloc_old w _ b hlt).trans HBK.out
  have hsrc : 0 < (byteCells acc).length → (some (⟨w.heap.size, 0, none⟩ : Addr)) = some ⟨w.heap.size, 0, none⟩ ∧ ∃ ad, ao = some ad ∧ ∀ j v, (byteCells acc)[j]? = some v → (w.alloc (.cells cs 5)).drew.drew.drew.cell? (ad.add j) = some v := fun hpos => by
    rcases HOWN.out.2 with ⟨h1, h2⟩ | ⟨g, cp, cur, h1, _, hg, _⟩
    · rw [byteCells_length] at hpos; omega
    · injection h1 with e1 e2 e3
      refine ⟨rfl, ⟨g, 0, none⟩, e1, fun j v hj => ?_⟩
      have := World.ownsRow.cells HOWN.out (g := g) (by rw [e1]; rfl) j v hj
      exact Lib.cell?_alloc_marked _ this
  have HS := Lib.hid hsrc
  have HG3 := Lib.hid hg3
  have HK3 := Lib.hid hbk3
  have HB3 := Lib.hid hB3
  have hsz : w.heap.size < (w.alloc (.cells cs 5)).drew.drew.drew.heap.size := by simp
  clear hsrc hg3 hbk3 hB3 c1 c2
  generalize (w.alloc (.cells cs 5)).drew.drew.drew = w3 at *
  have hbc : (byteCells acc).length = acc.length := byteCells_length acc
  have HBC := Lib.hid hbc
  obtain ⟨bc, hbcd⟩ : ∃ bc, bc = byteCells acc := ⟨_, rfl⟩
  rw [← hbcd] at HS HBC
  have HFIT : Hid (0 + bc.length ≤ cs.toList.length) := by
    have h1 := HLE.out
    have h2 := HLEN.out
    have h3 := HBC.out
    have h4 : cs.toList.length = cs.size := Array.length_toList
    exact Lib.hid (by omega)
  have HD := Lib.hid hbcd
  clear hbc hbcd
  go_wp2_with ((refine wpList_copy_splice (by rfl) _ _ 32 32 (by rfl) 5 Try.underlying32 infoU8s (some ⟨w.heap.size, 0, none⟩) ao acc.length cs.size acc.length cap (by rfl) (by rfl) w.heap.size 0 cs.toList 5 HG3.out bc (by rw [HBC.out]; exact (Nat.min_self _).symm) HS.out HFIT.out (fun v hv => by rw [HD.out] at hv; obtain ⟨x, _, rfl⟩ := List.mem_map.1 hv; rfl) w.heap.size w3 (Below.refl _ _) (Nat.le_refl _) ?_); intro w4 HG4 hB4; have hb4 : w4.heap[b]? = some (.cells #[.pointer (some ⟨b, 0, none⟩), .slice ao acc.length cap] 100 (0, 0)) := (hB4.block b hlt).trans HK3.out; have d1 : w4.cell? ⟨b, 1, none⟩ = some (.slice ao acc.length cap) := cell1_of hb4; have f1 : w4.frozen? ⟨b, 1, none⟩ = false := Lib.frozen_of_heap hb4 1; have HB4 := Lib.hid hB4; have HK4 := Lib.hid hb4; clear hB4 hb4)
  go_end0
  have hl1 : acc.length ≤ cs.size := by have := HLE.out; have := HLEN.out; omega
  have hown4 : OwnB w4 B (.slice (some ⟨w.heap.size, 0, none⟩) acc.length cs.size) acc := by
    refine ⟨by rw [byteCells_length, Nat.mul_one], .inr ⟨w.heap.size, cs.size, (splice cs.toList 0 bc).toArray, rfl, hBw, HG4.out, hl1, hcm, ?_, ?_⟩⟩
    · rw [List.size_toArray, length_splice _ _ _ HFIT.out, Nat.mul_one]; exact Array.length_toList
    · rw [← HD.out]
      simp only [splice, List.take_zero, List.nil_append]
      rw [Nat.mul_one, ← HBC.out, List.take_left]
  refine ⟨rfl, Lib.BuilderAt.put hB HK4.out (bld_of_own hown4) (by decide), ?_⟩
  exact ((HB3.out.trans (HB4.out.mono hBw)).setCell (p := ⟨b, 1, none⟩) hB _)
set_option maxHeartbeats 1600000 in
set_option maxRecDepth 100000 in
/-- Grow, written already or not -/
theorem bldGrow (B b n : Nat) (acc : List UInt8) (w : World) (h : Bld w B b acc) (hn : acc.length + n ≤ 70368744177664) (hBw : B ≤ w.heap.size) :
    Calls Try.prog 43 #[.pointer (some ⟨b, 0, none⟩), .int .i64 n] w fun e w' => e = .returned (.tuple #[]) ∧ BldUsed w' B b acc ∧ Below B w w' := by
  have HH := Lib.hid h
  clear h
  go_enter Try.func43, Try.ntmps43
  go_wp2_with (go_at_call 47; refine (bldCheck B b acc _ HH.out).mono ?_)
  rintro e w1 ⟨rfl, ⟨hB, v, hbk, hown0, hne⟩, hb1⟩
  have hown := own_of_bld hown0
  obtain ⟨ao, n', cap, rfl⟩ := hown.form
  have hnn : n' = acc.length ∧ (acc.length ≤ cap ∧ cap ≤ maxLen) := by
    rcases hown.2 with ⟨h1, h2⟩ | ⟨g, cp, cur, h1, _, _, h3, h4, _⟩
    · injection h1 with e1 e2 e3; omega
    · injection h1 with e1 e2 e3; omega
  obtain ⟨rfl, hcl, hcm⟩ := hnn
  have c1 : w1.drew.cell? ⟨b, 1, none⟩ = some (.slice ao acc.length cap) := by
    have : w1.drew.heap[b]? = _ := hbk
    rw [Lib.cell_of_heap this]; rfl
  unfold maxLen at hcm
  have x1 : IntKind.i64.wrap ((cap : Int) - (acc.length : Int)) = (cap : Int) - (acc.length : Int) := IntWalk.i64_in _ (by omega)
  have HU : Hid (BldUsed w1 B b acc) := Lib.hid ⟨hB, _, hbk, hown0, hne⟩
  have HOWN := Lib.hid hown
  have HBK := Lib.hid hbk
  have HB1 := Lib.hid hb1
  have hBw1 : B ≤ w1.heap.size := Nat.le_trans hBw hb1.size
  have c0 : w1.cell? ⟨b, 1, none⟩ = some (.slice ao acc.length cap) := c1
  clear hown hown0 hbk hne hb1
  by_cases hroom : cap - acc.length < n
  · have x2 : decide ((cap : Int) - (acc.length : Int) < (n : Int)) = true := decide_eq_true (by omega)
    go_wp2_with fail
    go_quiet (fail)
    go_wp2_with (go_at_call 48; refine (bldGrow0 B b n cap ao acc (World.drewN w1 _) hB HBK.out (OwnB.drewN HOWN.out _) (by omega) (by omega) hBw1).mono ?_; rintro e w2 ⟨rfl, hU2, hB2⟩)
    go_end0
    exact ⟨rfl, hU2, (below_drewN HB1.out _).trans hB2⟩
  · have x2 : decide ((cap : Int) - (acc.length : Int) < (n : Int)) = false := decide_eq_false (by omega)
    go_wp2_with fail
    go_quiet (fail)
    go_wp2_with fail
    go_end0
    exact ⟨rfl, BuilderAt.drewN HU.out _, below_drewN HB1.out _⟩
end Go.Proofs.Ytlhlehmmaoadgaa
