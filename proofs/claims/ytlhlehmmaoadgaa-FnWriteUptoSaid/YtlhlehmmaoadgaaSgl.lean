/- The replacer of a single text: made, and Replace. -/
import Derived.Test.YtlhlehmmaoadgaaAgree
import Derived.Test.YtlhlehmmaoadgaaBld
import Derived.Test.YtlhlehmmaoadgaaRepL
import Derived.Test.YtlhlehmmaoadgaaNext
import Derived.Deep.LoopGhost
namespace Go.Proofs.Ytlhlehmmaoadgaa
open Go.RowKit Go.Lib
set_option linter.unusedVariables false

theorem rep_single {o n : List UInt8} (ho : o ≠ []) : ∀ t : List UInt8, (index t o = -1 → rep [(o, n)] true t = t) ∧
    (∀ m : Nat, index t o = (m : Int) → m + o.length ≤ t.length ∧ rep [(o, n)] true t = t.take m ++ (n ++ rep [(o, n)] true (t.drop (m + o.length)))) := by
  have hl : SolidL [(o, n)] := fun p hp => by rw [List.mem_singleton.1 hp]; exact ho
  have he : o.isEmpty = false := by cases o with | nil => exact absurd rfl ho | cons => rfl
  intro t
  induction t with
  | nil =>
    refine ⟨fun _ => rep_nil (hit_solid_nil hl true), fun m h => ?_⟩
    unfold index at h
    rw [he] at h
    simp at h
  | cons c r ih =>
    have hd : index (c :: r) o = if o.isPrefixOf (c :: r) then 0 else if index r o == -1 then -1 else index r o + 1 := rfl
    cases hp : o.isPrefixOf (c :: r) with
    | true =>
      rw [hp] at hd
      simp only [if_true] at hd
      have hh : hit [(o, n)] true (c :: r) = some (o, n) := by unfold hit; simp [hp]
      refine ⟨fun h => by rw [hd] at h; omega, fun m h => ?_⟩
      obtain rfl : m = 0 := by rw [hd] at h; omega
      refine ⟨by simpa using (List.isPrefixOf_iff_prefix.1 hp).length_le, ?_⟩
      rw [rep_solid_hit hl hh]
      simp
    | false =>
      rw [hp] at hd
      simp only [Bool.false_eq_true, if_false] at hd
      have hh : hit [(o, n)] true (c :: r) = none := by unfold hit; simp [hp]
      by_cases hi : index r o = -1
      · rw [hi] at hd
        simp only [beq_self_eq_true, if_true] at hd
        refine ⟨fun _ => by rw [rep_cons hh, ih.1 hi], fun m h => by rw [hd] at h; omega⟩
      · have hb : (index r o == -1) = false := beq_eq_false_iff_ne.2 hi
        rw [hb] at hd
        simp only [Bool.false_eq_true, if_false] at hd
        have hge := index_ge r o
        refine ⟨fun h => by rw [hd] at h; omega, fun m h => ?_⟩
        obtain ⟨m', rfl⟩ : ∃ m', m = m' + 1 := ⟨m - 1, by rw [hd] at h; omega⟩
        obtain ⟨h1, h2⟩ := ih.2 m' (by rw [hd] at h; omega)
        refine ⟨by simp only [List.length_cons]; omega, ?_⟩
        rw [rep_cons hh, h2, List.take_succ_cons, show m' + 1 + o.length = (m' + o.length) + 1 by omega, List.drop_succ_cons]
        rfl

theorem Fin.lower {w w' : World} {fb tb : Nat} {p : ByteArray} {bad good : Nat → Int} {B : Nat} (h : Fin w fb tb p bad good) (hb : Below B w w') (h1 : fb < B) (h2 : tb < B) : Fin w' fb tb p bad good :=
  ⟨by rw [hb.cell (p := ⟨fb, 0, none⟩) h1]; exact h.pat, fun c hc => by rw [hb.cell (p := ⟨fb, 1 + c, none⟩) h1]; exact h.bads c hc, by rw [hb.cell (p := ⟨fb, 257, none⟩) h1]; exact h.slot,
    fun j hj => by rw [hb.cell (p := ⟨tb, j, none⟩) h2]; exact h.goods j hj, fun o => by rw [hb.frozen (p := ⟨fb, o, none⟩) h1]; exact h.fz1 o, fun o => by rw [hb.frozen (p := ⟨tb, o, none⟩) h2]; exact h.fz2 o, h.ne⟩
theorem Ready.lower {w w' : World} {fb tb : Nat} {p : ByteArray} {bad far : Nat → Nat} {B : Nat} (h : Ready w fb tb p bad far) (hb : Below B w w') (h1 : fb < B) (h2 : tb < B) : Ready w' fb tb p bad far :=
  ⟨h.fin.lower hb h1 h2, h.isBad, h.isGood, h.farLe, h.badLe⟩
theorem Ready.agree {w w' : World} {fb tb : Nat} {p : ByteArray} {bad far : Nat → Nat} {lo B : Nat} (h : Ready w fb tb p bad far) (hb : AgreeOn lo B w w') (l1 : lo ≤ fb) (h1 : fb < B) (l2 : lo ≤ tb) (h2 : tb < B) : Ready w' fb tb p bad far :=
  ⟨⟨(hb.cell l1 h1).trans h.fin.pat, fun c hc => (hb.cell l1 h1).trans (h.fin.bads c hc), (hb.cell l1 h1).trans h.fin.slot, fun j hj => (hb.cell l2 h2).trans (h.fin.goods j hj), fun o => (hb.frozen l1 h1).trans (h.fin.fz1 o), fun o => (hb.frozen l2 h2).trans (h.fin.fz2 o), h.fin.ne⟩, h.isBad, h.isGood, h.farLe, h.badLe⟩
/-- a replacer of a single text, made, below a block -/
def SglAt (w : World) (B rb : Nat) (p v : ByteArray) : Prop :=
  ∃ (fb tb : Nat) (bad far : Nat → Nat), w.cell? ⟨rb, 0, none⟩ = some (.pointer (some ⟨fb, 0, none⟩)) ∧ w.cell? ⟨rb, 1, none⟩ = some (.string v) ∧ Ready w fb tb p bad far ∧ rb < B ∧ fb < B ∧ tb < B
theorem SglAt.lower {w w' : World} {B rb : Nat} {p v : ByteArray} (h : SglAt w B rb p v) (hb : Below B w w') : SglAt w' B rb p v := by
  obtain ⟨fb, tb, bad, far, c0, c1, R, h1, h2, h3⟩ := h
  exact ⟨fb, tb, bad, far, by rw [hb.cell (p := ⟨rb, 0, none⟩) h1]; exact c0, by rw [hb.cell (p := ⟨rb, 1, none⟩) h1]; exact c1, R.lower hb h2 h3, h1, h2, h3⟩

set_option maxHeartbeats 1600000 in
set_option maxRecDepth 100000 in
theorem makeSingle (p v : ByteArray) (hp : 1 ≤ p.size) (hs : p.size < 4294967296) (w : World) :
    Calls Try.prog 18 #[.string p, .string v] w fun e w' => ∃ rb, e = .returned (.pointer (some ⟨rb, 0, none⟩)) ∧ (∀ w2, AgreeOn w.heap.size w'.heap.size w' w2 → SglAt w2 w'.heap.size rb p v) ∧ Below w.heap.size w w' := by
  go_enter Try.func18, Try.ntmps18
  go_wp2_with (go_at_call 20; refine (makeFinder p hp hs _).mono ?_; rintro e w1 ⟨bad, far, rfl, R, hB⟩)
  go_ret
  have hsz : w.heap.size + 1 < w1.heap.size := by
    have := World.block_lt_of_cell? w1 _ R.fin.pat
    exact this
  have hb2 : ∀ o, Below w1.heap.size w1 (w1.alloc o) := fun o => (Below.refl _ _).alloc (Nat.le_refl _) o
  refine ⟨_, rfl, fun w2 ha => ⟨_, _, bad, far, ?_, ?_, (R.lower (hb2 _) hsz (by omega)).agree ha (by omega) (by simp; omega) (Nat.le_refl _) (by simp; omega), ?_, ?_, ?_⟩, hB.trans ((hb2 _).mono hB.size)⟩
  · rw [ha.cell hB.size (by simp), World.cell?_alloc_at _ _ _ _ rfl]; rfl
  · rw [ha.cell hB.size (by simp), World.cell?_alloc_at _ _ _ _ rfl]; rfl
  · simp
  · simp; omega
  · simp; omega

def SgRel (w : World) (p v s : ByteArray) (v6 v7 : Value) (wr : World) : Prop :=
  ∃ (i : Nat) (m : Bool) (acc : List UInt8), v6 = .int .i64 i ∧ v7 = .bool m ∧ i ≤ s.size ∧ Bld wr w.heap.size w.heap.size acc ∧ Below w.heap.size w wr ∧
    acc ++ rep [(p.data.toList, v.data.toList)] true (s.data.toList.drop i) = rep [(p.data.toList, v.data.toList)] true s.data.toList ∧ (m = false → acc = [] ∧ i = 0)
set_option maxHeartbeats 6400000 in
set_option maxRecDepth 100000 in
theorem sglReplace (rb : Nat) (p v s : ByteArray) (w : World) (hp : 1 ≤ p.size) (hps : p.size < 2147483648) (hvs : v.size < 2147483648) (hs : s.size < 2147483648) (hS : SglAt w w.heap.size rb p v)
    (hout : (rep [(p.data.toList, v.data.toList)] true s.data.toList).length ≤ 35184372088832) :
    Calls Try.prog 40 #[.pointer (some ⟨rb, 0, none⟩), .string s] w fun e w' => e = .returned (.string ⟨(rep [(p.data.toList, v.data.toList)] true s.data.toList).toArray⟩) ∧ Below w.heap.size w w' := by
  have hnot : ∀ (x : Bool) (w : World), (Op.unary .not (.bool x)).run Try.prog w = .ok (.bool (!x)) w := fun _ _ => rfl
  have HS := Lib.hid hS
  have HO := Lib.hid hout
  have HSL := Lib.hid (show s.data.toList.length = s.size by simp)
  have HPL := Lib.hid (show p.data.toList.length = p.size by simp)
  have HVL := Lib.hid (show v.data.toList.length = v.size by simp)
  clear hS hout
  go_enter Try.func40, Try.ntmps40
  go_wp2_with fail
  have HB0 := Lib.hid (Bld.new w)
  have HB1 := Lib.hid ((Below.refl _ w).alloc (Nat.le_refl w.heap.size) (.cells #[.pointer none, .slice none 0 0] 100))
  generalize w.alloc (.cells #[.pointer none, .slice none 0 0] 100) = w1 at HB0 HB1 ⊢
  go_loopw [6, 7] (SgRel w p v s) (fun vi _ _ => s.size - (RowKit.intOf vi).toNat)
  case atStart => exact ⟨0, false, [], rfl, rfl, Nat.zero_le _, HB0.out, HB1.out, by simp, fun _ => ⟨rfl, rfl⟩⟩
  case round =>
    clear HB0 HB1
    obtain ⟨i, m, acc, rfl, rfl, hi, hbld, hB, hacc, hm⟩ := hrel
    obtain ⟨fb, tb, bad, far, c0, c1, R, hr1, hr2, hr3⟩ := HS.out.lower hB
    have HR := Lib.hid R
    have HBLD := Lib.hid hbld
    have HB := Lib.hid hB
    have HM := Lib.hid hm
    have hBs := hB.size
    have hpat := R.fin.pat
    have hcut : ∀ w, (Instr.slice 9 (.string s) (some (.int .i64 (i : Int))) none none).run Try.prog w = .ok (.string (s.extract i s.size)) w := fun w => by simp [go_sem, Try.underlying9, hi]
    have hsd : (s.extract i s.size).data.toList = s.data.toList.drop i := by rw [Lib.extract_to_end]
    have hes : (s.extract i s.size).size = s.size - i := by simp
    have hep : p.data.toList ≠ [] := fun e => by have := HPL.out; rw [e] at this; simp at this; omega
    obtain ⟨hn1, hn2⟩ := rep_single (n := v.data.toList) hep (s.data.toList.drop i)
    have hge := index_ge (s.data.toList.drop i) p.data.toList
    clear R hbld hB hm
    by_cases hidx : index (s.data.toList.drop i) p.data.toList = -1
    · have hfin := hn1 hidx
      rw [hfin] at hacc
      have HA := Lib.hid hacc
      have HI : Hid (index (s.extract i s.size).data.toList p.data.toList = -1) := by rw [hsd]; exact Lib.hid hidx
      have hlen : acc.length + (s.size - i) ≤ 35184372088832 := by
        have := HO.out
        rw [← hacc, List.length_append, List.length_drop, HSL.out] at this
        exact this
      obtain ⟨t, ht⟩ : ∃ t, t = s.extract i s.size := ⟨_, rfl⟩
      rw [← ht] at hcut HI hsd hes
      have HSD := Lib.hid hsd
      have htz : t.size < 4294967296 := by omega
      have hbz : acc.length + t.size ≤ 140737488355328 := by omega
      have i1 : ((-1 : Int) == -1) = true := rfl
      clear hn1 hn2 hge hidx hfin hacc hsd hes ht hep
      cases m with
      | false =>
        obtain ⟨ha, hi0⟩ := HM.out rfl
        have hfull : rep [(p.data.toList, v.data.toList)] true s.data.toList = s.data.toList := by rw [← HA.out, ha, hi0]; rfl
        have HF := Lib.hid hfull
        clear ha hi0 hfull
        go_wp2_with fail
        go_region_held3 (fun w' => w'.cell? ⟨rb, 0, none⟩ = some (.pointer (some ⟨fb, 0, none⟩))) (go_keep) ((go_at_call 42; refine (next_any fb tb p t bad far hp (by omega) htz _ (HR.out.lower (below_drewN (Below.refl w.heap.size wr) _) hr2 hr3)).mono ?_; rw [HI.out]; rintro e w3 ⟨rfl, k, rfl⟩))
        go_wp2_with fail
        go_ret
        rw [HF.out]
        exact ⟨rfl, below_drewN HB.out _⟩
      | true =>
        go_wp2_with fail
        go_region_held3 (fun w' => w'.cell? ⟨rb, 0, none⟩ = some (.pointer (some ⟨fb, 0, none⟩))) (go_keep) ((go_at_call 42; refine (next_any fb tb p t bad far hp (by omega) htz _ (HR.out.lower (below_drewN (Below.refl w.heap.size wr) _) hr2 hr3)).mono ?_; rw [HI.out]; rintro e w3 ⟨rfl, k, rfl⟩))
        go_wp2_with (first
          | (go_at_call 45; refine (Try.Builder_String_any w.heap.size w.heap.size _ _ hU2 hBs2).mono ?_; rintro e w5 ⟨rfl, hB5⟩)
          | (go_at_call 44; refine (bldWrite w.heap.size w.heap.size acc t _ (HBLD.out.drewN _) hbz hBs).mono ?_; rintro e w4 ⟨rfl, hU, hB4⟩; have hU2 := hU.bld; have hBs2 : w.heap.size ≤ w4.heap.size := Nat.le_trans hBs hB4.size))
        go_ret
        rw [HSD.out, HA.out]
        exact ⟨rfl, ((below_drewN HB.out _).trans hB4).trans hB5⟩
    · obtain ⟨k0, hk0⟩ : ∃ k0 : Nat, index (s.data.toList.drop i) p.data.toList = (k0 : Int) := ⟨(index (s.data.toList.drop i) p.data.toList).toNat, by omega⟩
      obtain ⟨h1, h2⟩ := hn2 k0 hk0
      rw [List.length_drop, HSL.out, HPL.out] at h1
      rw [HPL.out] at h2
      have HI : Hid (index (s.extract i s.size).data.toList p.data.toList = (k0 : Int)) := by rw [hsd]; exact Lib.hid hk0
      have hlen : acc.length + (k0 + v.size) ≤ 35184372088832 := by
        have := HO.out
        rw [← hacc, h2, List.length_append, List.length_append, List.length_append, List.length_take, List.length_drop, HSL.out, HVL.out] at this
        omega
      obtain ⟨t, ht⟩ : ∃ t, t = s.extract i s.size := ⟨_, rfl⟩
      rw [← ht] at hcut HI hsd hes
      obtain ⟨u, hu⟩ : ∃ u, u = s.extract i (i + k0) := ⟨_, rfl⟩
      have hmid : ∀ w, (Instr.slice 9 (.string s) (some (.int .i64 (i : Int))) (some (.int .i64 ((i : Int) + (k0 : Int)))) none).run Try.prog w = .ok (.string u) w := fun w => by
        have e1 : i + k0 ≤ s.size := by omega
        have e2 : ((i : Int) + (k0 : Int)).toNat = i + k0 := by omega
        have e3 : (i : Int) + (k0 : Int) = ((i + k0 : Nat) : Int) := by push_cast; rfl
        have a1 : (0 : Int) ≤ (i : Int) + (k0 : Int) ∧ (i : Int) + (k0 : Int) ≤ (s.size : Int) := by omega
        have a2 : (i : Int) ≤ (i : Int) + (k0 : Int) := by omega
        rw [hu]
        simp [go_sem, Try.underlying9, a1, a2, e2]
      have hud : u.data.toList = (s.data.toList.drop i).take k0 := by rw [hu]; simp [ByteArray.data_extract]
      have huz : u.size = k0 := by rw [hu]; simp; omega
      have HUD := Lib.hid hud
      have hacc2 : acc ++ u.data.toList ++ v.data.toList ++ rep [(p.data.toList, v.data.toList)] true (s.data.toList.drop (i + (k0 + p.size))) = rep [(p.data.toList, v.data.toList)] true s.data.toList := by
        rw [← hacc, h2, hud, List.drop_drop]
        simp only [List.append_assoc]
      have REL : ∀ w', Bld w' w.heap.size w.heap.size (acc ++ u.data.toList ++ v.data.toList) → Below w.heap.size w w' → SgRel w p v s (.int .i64 ((i : Int) + ((k0 : Int) + (p.size : Int)))) (.bool true) w' := fun w' a1 a2 =>
        ⟨i + (k0 + p.size), true, _, by push_cast; rfl, rfl, by omega, a1, a2, hacc2, fun h => by cases h⟩
      have HREL := Lib.hid REL
      have htz : t.size < 4294967296 := by omega
      have hbu : acc.length + u.size ≤ 140737488355328 := by omega
      have hbv : (acc ++ u.data.toList).length + v.size ≤ 140737488355328 := by
        rw [List.length_append, show u.data.toList.length = u.size by simp]; omega
      have hgr : acc.length + (k0 + v.size) ≤ 70368744177664 := by omega
      have i1 : ((k0 : Int) == -1) = false := beq_eq_false_iff_ne.2 (by omega)
      have hki : (i : Int) + ((k0 : Int) + (p.size : Int)) ≤ s.size := by omega
      have hkn : ((k0 : Int) + (v.size : Int)) = ((k0 + v.size : Nat) : Int) := by push_cast; rfl
      have HKN := Lib.hid hkn
      clear REL hn1 hn2 hge hidx hk0 h1 h2 hacc hacc2 hsd hes ht hep hud huz hu hlen HM hkn
      go_wp2_with fail
      go_region_held3 (fun w' => w'.cell? ⟨rb, 0, none⟩ = some (.pointer (some ⟨fb, 0, none⟩))) (go_keep) ((go_at_call 42; refine (next_any fb tb p t bad far hp (by omega) htz _ (HR.out.lower (below_drewN (Below.refl w.heap.size wr) _) hr2 hr3)).mono ?_; rw [HI.out]; rintro e w3 ⟨rfl, k, rfl⟩))
      go_wp2_with fail
      rw [HKN.out]
      refine (bldGrow w.heap.size w.heap.size (k0 + v.size) acc _ (HBLD.out.drewN _) hgr hBs).mono ?_
      rintro e w4 ⟨rfl, hU4, hB4⟩
      have hW4 : Hid (Below w.heap.size wr w4) := Lib.hid ((below_drewN (Below.refl w.heap.size wr) _).trans hB4)
      have hBs4 : w.heap.size ≤ w4.heap.size := Nat.le_trans hBs hB4.size
      clear hB4
      go_wp2_with fail
      refine (bldWrite w.heap.size w.heap.size acc u _ hU4.bld hbu hBs4).mono ?_
      rintro e w5 ⟨rfl, hU5, hB5⟩
      have hW5 : Hid (Below w.heap.size wr w5) := Lib.hid (hW4.out.trans hB5)
      have hBs5 : w.heap.size ≤ w5.heap.size := Nat.le_trans hBs4 hB5.size
      have c15 : w5.cell? ⟨rb, 1, none⟩ = some (.string v) := (hW5.out.cell (p := ⟨rb, 1, none⟩) hr1).trans c1
      clear hB5 hU4
      go_wp2_with fail
      refine (bldWrite w.heap.size w.heap.size _ v _ hU5.bld hbv hBs5).mono ?_
      rintro e w6 ⟨rfl, hU6, hB6⟩
      have hW6 : Hid (Below w.heap.size wr w6) := Lib.hid (hW5.out.trans hB6)
      have c06 : w6.cell? ⟨rb, 0, none⟩ = some (.pointer (some ⟨fb, 0, none⟩)) := (hW6.out.cell (p := ⟨rb, 0, none⟩) hr1).trans c0
      have cp6 : w6.cell? ⟨fb, 0, none⟩ = some (.string p) := (hW6.out.cell (p := ⟨fb, 0, none⟩) hr2).trans hpat
      have HU6 := Lib.hid hU6.bld
      clear hB6 hU5 hU6 c15 c0 c1 hpat
      go_wp2_with fail
      go_roundw
      case rel => exact HREL.out _ HU6.out (HB.out.trans hW6.out)
      case measure => simp [RowKit.intOf]; omega
end Go.Proofs.Ytlhlehmmaoadgaa
