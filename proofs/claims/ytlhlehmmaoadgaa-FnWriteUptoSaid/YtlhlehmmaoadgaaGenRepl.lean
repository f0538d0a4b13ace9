/- The generic replacer writes to an appendSliceWriter; (*genericReplacer).Replace. -/
import Derived.Test.YtlhlehmmaoadgaaAsw
import Derived.Test.YtlhlehmmaoadgaaRepL
import Derived.Test.YtlhlehmmaoadgaaLawLookup
import Derived.Deep.LoopGhost
import Derived.Deep.RegionHeld3
import Derived.BigQuiet
import Derived.Deep.QuietTactic
namespace Go.Proofs.Ytlhlehmmaoadgaa
open Go.RowKit Go.Lib
set_option linter.unusedVariables false

theorem Tri.lower {w w' : World} {rb ts : Nat} {idx : UInt8 → Nat} {b : Nat} {m : Keys} {fp : Nat → Prop} {B : Nat} (h : Tri w rb ts idx b m fp) (hb : Below B w w') (hfp : ∀ x, fp x → x < B) : Tri w' rb ts idx b m fp :=
  h.same fun x hx => SameBlk.of_block (hb.block x (hfp x hx))
theorem RepAt.lower {w w' : World} {rb ts : Nat} {idx : UInt8 → Nat} {B : Nat} (h : RepAt w rb ts idx) (hb : Below B w w') (hr : rb < B) : RepAt w' rb ts idx :=
  ⟨Nat.lt_of_lt_of_le h.lt hb.size, by rw [hb.cell (p := ⟨rb, 5, none⟩) hr]; exact h.size, fun x => by rw [hb.cell (p := ⟨rb, 6 + x.toNat, none⟩) hr]; exact h.map x, h.le, h.inj, h.room⟩
theorem Plain.lower {w w' : World} {B x : Nat} (h : Plain w x) (hb : Below B w w') (hx : x < B) : Plain w' x := by
  obtain ⟨cs, t, hc⟩ := h
  exact ⟨cs, t, by rw [hb.block x hx]; exact hc⟩
/-- 's[i:j]' -/
theorem cutMid (s : ByteArray) (i j : Nat) (hij : i ≤ j) (hj : j ≤ s.size) (w : World) : (Instr.slice 9 (.string s) (some (.int .i64 (i : Int))) (some (.int .i64 (j : Int))) none).run Try.prog w = .ok (.string (s.extract i j)) w := by
  simp [go_sem, Try.underlying9, hij, hj]
/-- 's[i:]' -/
theorem cutTail (s : ByteArray) (k : Nat) (hk : k ≤ s.size) (w : World) : (Instr.slice 9 (.string s) (some (.int .i64 (k : Int))) none none).run Try.prog w = .ok (.string (s.extract k s.size)) w := by
  simp [go_sem, Try.underlying9, hk]
theorem mid_data (s : ByteArray) (i j : Nat) (hij : i ≤ j) (hj : j ≤ s.size) : (s.extract i j).data.toList = (s.data.toList.drop i).take (j - i) := by
  simp [ByteArray.data_extract]

/-- a generic replacer, made, below a block -/
structure GenAt (w : World) (B rb : Nat) (l : List ByteArray) (n : Nat) : Prop where
  ex : ∃ (u : Nat → Bool) (fp : Nat → Prop) (g : Addr), Tri w rb (cntU u 256) (idxU u) rb (keysTo l n) fp ∧ RepAt w rb (cntU u 256) (idxU u) ∧ (∀ x, fp x → x < B) ∧ (∀ x, fp x → Plain w x) ∧ w.cell? ⟨rb, 4, none⟩ = some (.slice (some g) (cntU u 256) (cntU u 256))
  lt : rb < B
theorem GenAt.lower {w w' : World} {B rb : Nat} {l : List ByteArray} {n : Nat} (h : GenAt w B rb l n) (hb : Below B w w') : GenAt w' B rb l n := by
  obtain ⟨⟨u, fp, g, T, R, F, P, K⟩, hl⟩ := h
  exact ⟨⟨u, fp, g, T.lower hb F, R.lower hb hl, F, fun x hx => (P x hx).lower hb (F x hx), by rw [hb.cell (p := ⟨rb, 4, none⟩) hl]; exact K⟩, hl⟩
/-- what the fast path reads -/
theorem GenAt.fast {w : World} {B rb : Nat} {l : List ByteArray} {n : Nat} (h : GenAt w B rb l n) :
    ∃ (p ts : Nat) (tb : Nat) (idx : UInt8 → Nat) (kid : Nat → Option Nat), w.cell? ⟨rb, 1, none⟩ = some (.int .i64 p) ∧ w.cell? ⟨rb, 5, none⟩ = some (.int .i64 ts) ∧ w.cell? ⟨rb, 4, none⟩ = some (.slice (some ⟨tb, 0, none⟩) ts ts) ∧
      (∀ c : UInt8, w.cell? ⟨rb, 6 + c.toNat, none⟩ = some (.int .u8 (idx c))) ∧ (∀ c, idx c ≤ ts ∧ idx c ≤ 255) ∧ ts ≤ 256 ∧ (∀ c : UInt8, idx c < ts → w.cell? ⟨tb, idx c, none⟩ = some (ptrOf (kid (idx c)))) ∧
      (p = 0 → keysTo l n [] = none) ∧ (p = 0 → ∀ c, (idx c = ts ∨ kid (idx c) = none) → ∀ k, keysTo l n (c :: k) = none) := by
  obtain ⟨⟨u, fp, g, T, R, F, P, K⟩, hl⟩ := h
  have hh0 : ∀ (p : Nat) (v : ByteArray), p = 0 → here p v = none := fun p v hp => by unfold here; rw [if_pos hp]
  cases T with
  | leaf h m0 m1 f => rw [h.c4] at K; cases K
  | pre h hp hl hu ht m0 m1 m2 f fs fd => rw [h.c4] at K; cases K
  | tab h hc hz ht hn m0 m1 f ft fs fd fdd hbt htr =>
    refine ⟨_, cntU u 256, _, idxU u, _, h.c1, R.size, h.c4, R.map, fun c => ⟨idxU_le_ts u c, R.room c⟩, R.le, fun c hlt => hc _ hlt, fun hp => by rw [m0]; exact hh0 _ _ hp, fun hp c hcc k => ?_⟩
    rw [m1]
    by_cases hlt : idxU u c < cntU u 256
    · rw [if_pos hlt]
      rcases hcc with h1 | h1
      · omega
      · exact (hn _ hlt h1).1 k
    · rw [if_neg hlt]
theorem keys_none_hit {l : List ByteArray} {n : Nat} (hl : l.length = 2 * n) {c : UInt8} {r : List UInt8} (h0 : keysTo l n [] = none) (h1 : ∀ k, keysTo l n (c :: k) = none) (e : Bool) : hit (prs l) e (c :: r) = none := by
  cases hh : hit (prs l) e (c :: r) with
  | none => rfl
  | some p =>
    obtain ⟨m1, m2, _⟩ := hit_some hh
    obtain ⟨i, hi, rfl⟩ := prs_mem l p m1
    have hk := keysTo_has l n i (by omega)
    cases hd : (l.getD (2 * i) ⟨#[]⟩).data.toList with
    | nil => rw [hd] at hk; exact absurd h0 hk
    | cons x k =>
      rw [hd] at hk
      have h2 : (x :: k) <+: c :: r := by rw [← hd]; exact m2
      obtain ⟨rfl, _⟩ := List.cons_prefix_cons.1 h2
      exact absurd (h1 k) hk
theorem keys_solid {l : List ByteArray} {n : Nat} (hl : l.length = 2 * n) (h0 : keysTo l n [] = none) : SolidL (prs l) := fun p hp e => by
  obtain ⟨i, hi, rfl⟩ := prs_mem l p hp
  have hk := keysTo_has l n i (by omega)
  have e' : (l.getD (2 * i) ⟨#[]⟩).data.toList = [] := e
  rw [e'] at hk
  exact hk h0

theorem aheadAsw (a : Addr) (w : World) : (nilAhead 220 114 (.pointer (some a)) "WriteString").run Try.prog w = .ok (some false) w := by kernel_rfl
theorem methAsw (a : Addr) (w : World) : (method 220 114 (.pointer (some a)) "WriteString").run Try.prog w = .ok (64, .pointer (some a)) w := by kernel_rfl

/-- where the walk stands at a round's head: 'n' is told, 'last', 'i', the last match empty or not -/
def GwRel (w0 : World) (B p : Nat) (acc0 : List UInt8) (l : List ByteArray) (s : ByteArray) (gk : Nat) (v6 v7 v9 v11 v12 : Value) (wr : World) : Prop :=
  ∃ (i last : Nat) (em : Bool) (acc : List UInt8), v6 = .int .i64 (acc.length : Nat) ∧ v7 = .nilIface ∧ v9 = .int .i64 last ∧ v11 = .bool (!em) ∧ v12 = .int .i64 i ∧ last ≤ i ∧ last ≤ s.size ∧ i ≤ s.size + 1 ∧
    Asw wr B p (acc0 ++ acc) ∧ Below B w0 wr ∧ 2 * (s.size + 1 - i) + (if em then 1 else 0) ≤ gk ∧
    (i ≤ s.size → acc ++ (s.data.toList.drop last).take (i - last) ++ rep (prs l) em (s.data.toList.drop i) = rep (prs l) true s.data.toList) ∧
    (i = s.size + 1 → acc ++ s.data.toList.drop last = rep (prs l) true s.data.toList)
def GwPost (w0 : World) (B p : Nat) (acc0 R : List UInt8) (e : Ending) (w' : World) : Prop :=
  e = .returned (.tuple #[.int .i64 R.length, .nilIface]) ∧ Asw w' B p (acc0 ++ R) ∧ Below B w0 w'
set_option maxHeartbeats 8000000 in
set_option maxRecDepth 100000 in
theorem genWriteAsw (rb B p n : Nat) (l : List ByteArray) (s : ByteArray) (acc0 : List UInt8) (w : World) (hG : GenAt w B rb l n) (hA : Asw w B p acc0) (hBw : B ≤ w.heap.size) (hs : s.size < 2147483648) (hl : l.length = 2 * n)
    (hk : ∀ s ∈ l, s.size ≤ 2147483647) (hout : acc0.length + (rep (prs l) true s.data.toList).length ≤ 140737488355328) :
    Calls Try.prog 52 #[.pointer (some ⟨rb, 0, none⟩), .iface 114 (.pointer (some ⟨p, 0, none⟩)), .string s] w (GwPost w B p acc0 (rep (prs l) true s.data.toList)) := by
  have hah := aheadAsw
  have hmt := methAsw
  have hmf : ∀ (fn : Fn) (first cap : Array Value) (w : World), (Instr.makeFunc fn first cap).run Try.prog w = .ok (.func fn first cap) w := fun _ _ _ _ => rfl
  have HG := Lib.hid hG
  have HA := Lib.hid hA
  have HL := Lib.hid hl
  have HK := Lib.hid hk
  have HO := Lib.hid hout
  have HSL := Lib.hid (show s.data.toList.length = s.size by simp)
  clear hG hA hl hk hout
  go_enter Try.func52, Try.ntmps52
  go_wp2_with (go_at_call 46; refine (getSwAsw p _).mono ?_; rintro e w' ⟨rfl, rfl⟩)
  go_loopg [6, 7, 9, 11, 12] (2 * s.size + 3) (GwRel w B p acc0 l s)
  case atStart => exact ⟨0, 0, true, [], rfl, rfl, rfl, rfl, rfl, Nat.le_refl _, Nat.zero_le _, Nat.zero_le _, by simpa using HA.out, Below.refl _ _, by simp; omega, fun _ => by simp, fun h => by omega⟩
  case round =>
    clear HA
    obtain ⟨i, last, em, acc, rfl, rfl, rfl, rfl, rfl, hli, hls, his, hAsw, hB, hg, hrel1, hrel2⟩ := hrel
    have HA := Lib.hid hAsw
    have HG2 := Lib.hid (HG.out.lower hB)
    have HR1 := Lib.hid hrel1
    have HR2 := Lib.hid hrel2
    have HGK := Lib.hid hg
    have HB := Lib.hid hB
    have hBr : B ≤ wr.heap.size := Nat.le_trans hBw hB.size
    clear hAsw hrel1 hrel2 hg hB
    by_cases hi : i ≤ s.size
    · have i1 : (i : Int) ≤ s.size := by omega
      obtain ⟨pr, ts, tb, idx, kid, hc1, hc5, hc4, hcm, hits, hts, hct, hp0, hp1⟩ := HG2.out.fast
      have HP0 := Lib.hid hp0
      have HP1 := Lib.hid hp1
      have HCM := Lib.hid hcm
      have HIT := Lib.hid hits
      have HCT := Lib.hid hct
      clear hp0 hp1 hcm hits hct
      by_cases hfast : pr = 0 ∧ ∃ hlt : i < s.size, (idx s[i] = ts ∨ kid (idx s[i]) = none)
      · obtain ⟨hpr, hlt, hcc⟩ := hfast
        have i2 : ((i : Int) != s.size) = true := bne_iff_ne.2 (by omega)
        have i3 : (i : Int) < s.size := by omega
        have hpz : ((pr : Int) == 0) = true := beq_iff_eq.2 (by omega)
        have hil : i < s.data.toList.length := by rw [HSL.out]; exact hlt
        have hd : s.data.toList.drop i = s[i] :: s.data.toList.drop (i + 1) := by rw [List.drop_eq_getElem_cons hil]; rfl
        have hh : ∀ e, hit (prs l) e (s[i] :: s.data.toList.drop (i + 1)) = none := keys_none_hit HL.out (HP0.out hpr) (HP1.out hpr _ hcc)
        have hsol := keys_solid HL.out (HP0.out hpr)
        have hrep : rep (prs l) em (s.data.toList.drop i) = s[i] :: rep (prs l) em (s.data.toList.drop (i + 1)) := by
          rw [hd, rep_cons (hh em), rep_solid hsol em]
        have REL : ∀ (k : Nat), GwRel w B p acc0 l s (2 * (s.size + 1 - (i + 1)) + (if em then 1 else 0)) (.int .i64 (acc.length : Nat)) .nilIface (.int .i64 last) (.bool (!em)) (.int .i64 ((i + 1 : Nat) : Int)) (wr.drewN k) := fun k =>
          ⟨i + 1, last, em, acc, rfl, rfl, rfl, rfl, rfl, by omega, hls, by omega, HA.out.drewN k, below_drewN HB.out k, Nat.le_refl _, fun _ => by
            rw [← HR1.out hi, hrep, show i + 1 - last = (i - last) + 1 by omega, List.take_succ_eq_append_getElem (by rw [List.length_drop, HSL.out]; omega)]
            rw [List.getElem_drop]
            simp only [show last + (i - last) = i by omega, List.append_assoc, List.cons_append, List.nil_append]
            rfl, fun h => by omega⟩
        have HREL := Lib.hid REL
        have hcs := HCM.out s[i]
        have i5 : (s[i].toNat : Int) < 256 := by have := s[i].toNat_lt; omega
        have i6 : (idx s[i] : Int) ≤ 255 := by have := (HIT.out s[i]).2; omega
        have HH := Lib.hid hcc
        clear REL hh hsol hrep hd hpr
        by_cases he : idx s[i] = ts
        · have he' : ((idx s[i] : Int) == ts) = true := beq_iff_eq.2 (by omega)
          have HE := Lib.hid he
          clear he
          go_wp2_with fail
          go_quiet (fail)
          go_wp2_with fail
          go_roundg (2 * (s.size + 1 - (i + 1)) + (if em then 1 else 0))
          case rel => exact HREL.out _
          case measure => have hm := HGK.out; generalize (if em = true then 1 else 0) = q at hm ⊢; omega
        · have he' : ((idx s[i] : Int) == ts) = false := beq_eq_false_iff_ne.2 (by omega)
          have hix : idx s[i] < ts := by have := (HIT.out s[i]).1; omega
          have hix' : (idx s[i] : Int) < ts := by omega
          have hkn : kid (idx s[i]) = none := by rcases HH.out with h | h; · exact absurd h he
                                                 · exact h
          have hct := HCT.out s[i] hix
          rw [hkn] at hct
          simp only [ptrOf, Option.map_none] at hct
          clear he hkn
          go_wp2_with fail
          go_quiet (fail)
          go_wp2_with fail
          go_roundg (2 * (s.size + 1 - (i + 1)) + (if em then 1 else 0))
          case rel => exact HREL.out _
          case measure => have hm := HGK.out; generalize (if em = true then 1 else 0) = q at hm ⊢; omega
      · have hways : ((i : Int) != s.size) = false ∨ (((i : Int) != s.size) = true ∧ ((pr : Int) == 0) = false) ∨
            (∃ hlt : i < s.size, ((i : Int) != s.size) = true ∧ ((pr : Int) == 0) = true ∧ ((idx s[i] : Int) == ts) = false ∧ (idx s[i] : Int) < ts ∧ (idx s[i] : Int) ≤ 255 ∧ (∃ c : Nat, wr.cell? ⟨tb, idx s[i], none⟩ = some (.pointer (some ⟨c, 0, none⟩))) ∧ wr.cell? ⟨rb, 6 + s[i].toNat, none⟩ = some (.int .u8 (idx s[i]))) := by
          by_cases h1 : i = s.size
          · left; rw [h1]; simp
          · right
            have h1' : ((i : Int) != s.size) = true := bne_iff_ne.2 (by omega)
            by_cases h2 : pr = 0
            · right
              have hlt : i < s.size := by omega
              have hno : ¬ (idx s[i] = ts ∨ kid (idx s[i]) = none) := fun h => hfast ⟨h2, hlt, h⟩
              have hix : idx s[i] < ts := by
                have := (HIT.out s[i]).1
                have h3 : idx s[i] ≠ ts := fun h => hno (.inl h)
                omega
              refine ⟨hlt, h1', beq_iff_eq.2 (by omega), beq_eq_false_iff_ne.2 (by omega), by omega, by have := (HIT.out s[i]).2; omega, ?_, HCM.out _⟩
              cases hkd : kid (idx s[i]) with
              | none => exact absurd (.inr hkd) hno
              | some c => exact ⟨c, by rw [HCT.out _ hix, hkd]; rfl⟩
            · exact .inl ⟨h1', beq_eq_false_iff_ne.2 (by omega)⟩
        have HW := Lib.hid hways
        clear hways hfast
        have hcut := cutTail s i hi
        have hmid := cutMid s last i hli hi
        have hsd : (s.extract i s.size).data.toList = s.data.toList.drop i := by rw [Lib.extract_to_end]
        have hmd := mid_data s last i hli hi
        have hdl : (s.data.toList.drop i).length = s.size - i := by rw [List.length_drop, HSL.out]
        have hml : ((s.data.toList.drop last).take (i - last)).length = i - last := by rw [List.length_take, List.length_drop, HSL.out]; omega
        have HRi := HR1.out hi
        have HSD := Lib.hid hsd
        have HMD := Lib.hid hmd
        have HML := Lib.hid hml
        have hms : (s.extract last i).size = i - last := by simp; omega
        have hes : (s.extract i s.size).size < 4611686018427387904 := by simp; omega
        obtain ⟨u, fp, gg, T, R, F, P, K⟩ := HG2.out.ex
        have HLK := Lib.hid (fun w' => lookup_any rb (cntU u 256) (idxU u) (keysTo l n) fp (s.extract i s.size) (!em) w')
        have HT := Lib.hid T
        have HRP := Lib.hid R
        have HPL := Lib.hid P
        clear T R F P K hsd hmd hml
        rcases first_or_none l n (s.data.toList.drop i) (!em) with ⟨i0, hf⟩ | hf
        · have hbest := best_first l n (by have := HL.out; omega) (s.data.toList.drop i) (!em) i0 hf
          rw [← HSD.out] at hbest
          have hh := hit_first HL.out hf
          have hrep := rep_hit hh
          have hpre := hf.2.1.length_le
          have hne := hf.2.2.1
          have hfp := hf.1
          have hjl : 2 * i0 < l.length := by have := HL.out; omega
          have hjl2 : 2 * i0 + 1 < l.length := by have := HL.out; omega
          have hks : l[2 * i0].size ≤ 2147483647 := HK.out _ (List.getElem_mem _)
          have hvs : l[2 * i0 + 1].size ≤ 2147483647 := HK.out _ (List.getElem_mem _)
          rw [show l.getD (2 * i0) ⟨#[]⟩ = l[2 * i0] by simp [List.getD, hjl]] at hrep hpre hne hbest
          rw [show l.getD (2 * i0 + 1) ⟨#[]⟩ = l[2 * i0 + 1] by simp [List.getD, hjl2]] at hrep hbest
          generalize l[2 * i0] = key at *
          generalize l[2 * i0 + 1] = val at *
          have hkl : key.data.toList.length = key.size := by simp
          have hvl : val.data.toList.length = val.size := by simp
          rw [hkl, hdl] at hpre
          simp only [List.drop_drop] at hrep
          rw [hkl] at hrep
          have hsum : acc0.length + (acc.length + (i - last) + val.size) ≤ 140737488355328 := by
            have := HO.out
            rw [← HRi, hrep, List.length_append, List.length_append, List.length_append, HML.out, hvl] at this
            omega
          have h5 : i + key.size ≤ s.size := by omega
          have hki : (i : Int) + key.size ≤ s.size := by omega
          obtain ⟨m, hm⟩ : ∃ m, m = s.extract last i := ⟨_, rfl⟩
          rw [← hm] at HMD hmid hms
          have hmA : (acc.length : Int) + m.size + val.size ≤ 140737488355328 := by omega
          have hmB : acc0.length + acc.length + m.size ≤ 140737488355328 := by omega
          have hmC : acc0.length + acc.length + m.size + val.size ≤ 140737488355328 := by omega
          have REL : ∀ (em' : Bool) (w1 : World), em' = !key.data.toList.isEmpty → Asw w1 B p (acc0 ++ acc ++ m.data.toList ++ val.data.toList) → Below B w w1 → GwRel w B p acc0 l s (2 * (s.size + 1 - (i + key.size)) + (if em' then 1 else 0)) (.int .i64 ((acc.length : Int) + m.size + val.size)) .nilIface (.int .i64 ((i : Int) + key.size)) (.bool (!em')) (.int .i64 ((i : Int) + key.size)) w1 := fun em' w1 he h1 h2 => by
            refine ⟨i + key.size, i + key.size, em', acc ++ m.data.toList ++ val.data.toList, ?_, rfl, by push_cast; rfl, rfl, by push_cast; rfl, Nat.le_refl _, h5, by omega, by simpa [List.append_assoc] using h1, h2, Nat.le_refl _, fun _ => ?_, fun h => by omega⟩
            · rw [List.length_append, List.length_append, hvl, show m.data.toList.length = m.size by simp]
              push_cast
              rfl
            · rw [Nat.sub_self, List.take_zero, List.append_nil, he, ← HRi, hrep, HMD.out]
              simp only [List.append_assoc]
          have hdec : ∀ em' : Bool, em' = !key.data.toList.isEmpty → 2 * (s.size + 1 - (i + key.size)) + (if em' then 1 else 0) < gk := fun em' he => by
            have h1 := HGK.out
            by_cases h0 : key.size = 0
            · have hk0 : key.data.toList = [] := (nil_iff key).2 h0
              have hem : em = true := by
                cases hem : em with
                | true => rfl
                | false => exact absurd ⟨by rw [hem]; rfl, hk0⟩ hne
              rw [hem] at h1
              rw [he, hk0]
              simp at h1 ⊢
              omega
            · have : (if em' = true then 1 else 0) ≤ 1 := by split <;> omega
              omega
          have HBE := Lib.hid hbest
          have HREL := Lib.hid REL
          have HDEC := Lib.hid hdec
          have HMS := Lib.hid hms
          have hke : ∃ em' : Bool, em' = (!key.data.toList.isEmpty) ∧ ((key.size : Int) == 0) = !em' := by
            by_cases h0 : key.size = 0
            · exact ⟨false, by rw [(nil_iff key).2 h0]; rfl, by rw [h0]; rfl⟩
            · refine ⟨true, ?_, beq_eq_false_iff_ne.2 (by omega)⟩
              cases hd : key.data.toList with
              | nil => exact absurd ((nil_iff key).1 hd) h0
              | cons => rfl
          obtain ⟨em', hem1, hem2⟩ := hke
          have HEM := Lib.hid hem1
          have hnot : ∀ (x : Bool) (w : World), (Op.unary .not (.bool x)).run Try.prog w = .ok (.bool (!x)) w := fun _ _ => rfl
          clear REL hdec hem1 hf hh hrep hne hbest HRi hdl hm hkl hvl hpre hfp hjl hjl2 hms hsum
          rcases HW.out with hw | ⟨hw1, hw2⟩ | ⟨hlt, hw1, hw2, hw3, hw4, hw5, ⟨c, hw6⟩, hw7⟩
          · cases em' with
            | false =>
              simp only [Bool.not_false] at hem2
              go_wp2_with (go_at_call 53; refine (HLK.out _ HT.out HRP.out (idxU_le_ts u) HPL.out hes).mono ?_; rintro e w2 ⟨k, rfl, rfl⟩; rw [HBE.out]; simp only [bv, bn, bf])
              go_region_held3 (fun w' => True) (trivial) ((go_at_call 64; refine (aswWrite B p _ m _ (HA.out.drewN _) (by rw [List.length_append]; exact hmB) hBr).mono ?_; rintro e w3 ⟨rfl, hA3, hB3⟩))
              have hBr3 : B ≤ w3.heap.size := Nat.le_trans hBr hB3.size
              have HB3 := Lib.hid hB3
              clear hB3
              go_wp2_with (go_at_call 64; refine (aswWrite B p _ val _ hA3 (by rw [List.length_append, List.length_append, show m.data.toList.length = m.size by simp]; exact hmC) hBr3).mono ?_; rintro e w4 ⟨rfl, hA4, hB4⟩)
              go_roundg (2 * (s.size + 1 - (i + key.size)) + (if false then 1 else 0))
              case rel => exact HREL.out false _ HEM.out hA4 ((Below.trans (below_drewN HB.out _) HB3.out).trans hB4)
              case measure => exact HDEC.out false HEM.out
            | true =>
              simp only [Bool.not_true] at hem2
              go_wp2_with (go_at_call 53; refine (HLK.out _ HT.out HRP.out (idxU_le_ts u) HPL.out hes).mono ?_; rintro e w2 ⟨k, rfl, rfl⟩; rw [HBE.out]; simp only [bv, bn, bf])
              go_region_held3 (fun w' => True) (trivial) ((go_at_call 64; refine (aswWrite B p _ m _ (HA.out.drewN _) (by rw [List.length_append]; exact hmB) hBr).mono ?_; rintro e w3 ⟨rfl, hA3, hB3⟩))
              have hBr3 : B ≤ w3.heap.size := Nat.le_trans hBr hB3.size
              have HB3 := Lib.hid hB3
              clear hB3
              go_wp2_with (go_at_call 64; refine (aswWrite B p _ val _ hA3 (by rw [List.length_append, List.length_append, show m.data.toList.length = m.size by simp]; exact hmC) hBr3).mono ?_; rintro e w4 ⟨rfl, hA4, hB4⟩)
              go_roundg (2 * (s.size + 1 - (i + key.size)) + (if true then 1 else 0))
              case rel => exact HREL.out true _ HEM.out hA4 ((Below.trans (below_drewN HB.out _) HB3.out).trans hB4)
              case measure => exact HDEC.out true HEM.out
          · cases em' with
            | false =>
              simp only [Bool.not_false] at hem2
              go_wp2_with (go_at_call 53; refine (HLK.out _ HT.out HRP.out (idxU_le_ts u) HPL.out hes).mono ?_; rintro e w2 ⟨k, rfl, rfl⟩; rw [HBE.out]; simp only [bv, bn, bf])
              go_region_held3 (fun w' => True) (trivial) ((go_at_call 64; refine (aswWrite B p _ m _ (HA.out.drewN _) (by rw [List.length_append]; exact hmB) hBr).mono ?_; rintro e w3 ⟨rfl, hA3, hB3⟩))
              have hBr3 : B ≤ w3.heap.size := Nat.le_trans hBr hB3.size
              have HB3 := Lib.hid hB3
              clear hB3
              go_wp2_with (go_at_call 64; refine (aswWrite B p _ val _ hA3 (by rw [List.length_append, List.length_append, show m.data.toList.length = m.size by simp]; exact hmC) hBr3).mono ?_; rintro e w4 ⟨rfl, hA4, hB4⟩)
              go_roundg (2 * (s.size + 1 - (i + key.size)) + (if false then 1 else 0))
              case rel => exact HREL.out false _ HEM.out hA4 ((Below.trans (below_drewN HB.out _) HB3.out).trans hB4)
              case measure => exact HDEC.out false HEM.out
            | true =>
              simp only [Bool.not_true] at hem2
              go_wp2_with (go_at_call 53; refine (HLK.out _ HT.out HRP.out (idxU_le_ts u) HPL.out hes).mono ?_; rintro e w2 ⟨k, rfl, rfl⟩; rw [HBE.out]; simp only [bv, bn, bf])
              go_region_held3 (fun w' => True) (trivial) ((go_at_call 64; refine (aswWrite B p _ m _ (HA.out.drewN _) (by rw [List.length_append]; exact hmB) hBr).mono ?_; rintro e w3 ⟨rfl, hA3, hB3⟩))
              have hBr3 : B ≤ w3.heap.size := Nat.le_trans hBr hB3.size
              have HB3 := Lib.hid hB3
              clear hB3
              go_wp2_with (go_at_call 64; refine (aswWrite B p _ val _ hA3 (by rw [List.length_append, List.length_append, show m.data.toList.length = m.size by simp]; exact hmC) hBr3).mono ?_; rintro e w4 ⟨rfl, hA4, hB4⟩)
              go_roundg (2 * (s.size + 1 - (i + key.size)) + (if true then 1 else 0))
              case rel => exact HREL.out true _ HEM.out hA4 ((Below.trans (below_drewN HB.out _) HB3.out).trans hB4)
              case measure => exact HDEC.out true HEM.out
          · cases em' with
            | false =>
              simp only [Bool.not_false] at hem2
              have i3 : (i : Int) < s.size := by omega
              have i5 : (s[i].toNat : Int) < 256 := by have := s[i].toNat_lt; omega
              go_wp2_with fail
              go_quiet (fail)
              go_wp2_with (go_at_call 53; refine (HLK.out _ (HT.out.drewN _) (HRP.out.drewN _) (idxU_le_ts u) HPL.out hes).mono ?_; rintro e w2 ⟨k, rfl, rfl⟩; rw [HBE.out]; simp only [bv, bn, bf])
              go_region_held3 (fun w' => True) (trivial) ((go_at_call 64; refine (aswWrite B p _ m _ (HA.out.drewN _) (by rw [List.length_append]; exact hmB) hBr).mono ?_; rintro e w3 ⟨rfl, hA3, hB3⟩))
              have hBr3 : B ≤ w3.heap.size := Nat.le_trans hBr hB3.size
              have HB3 := Lib.hid hB3
              clear hB3
              go_wp2_with (go_at_call 64; refine (aswWrite B p _ val _ hA3 (by rw [List.length_append, List.length_append, show m.data.toList.length = m.size by simp]; exact hmC) hBr3).mono ?_; rintro e w4 ⟨rfl, hA4, hB4⟩)
              go_roundg (2 * (s.size + 1 - (i + key.size)) + (if false then 1 else 0))
              case rel => exact HREL.out false _ HEM.out hA4 ((Below.trans (below_drewN HB.out _) HB3.out).trans hB4)
              case measure => exact HDEC.out false HEM.out
            | true =>
              simp only [Bool.not_true] at hem2
              have i3 : (i : Int) < s.size := by omega
              have i5 : (s[i].toNat : Int) < 256 := by have := s[i].toNat_lt; omega
              go_wp2_with fail
              go_quiet (fail)
              go_wp2_with (go_at_call 53; refine (HLK.out _ (HT.out.drewN _) (HRP.out.drewN _) (idxU_le_ts u) HPL.out hes).mono ?_; rintro e w2 ⟨k, rfl, rfl⟩; rw [HBE.out]; simp only [bv, bn, bf])
              go_region_held3 (fun w' => True) (trivial) ((go_at_call 64; refine (aswWrite B p _ m _ (HA.out.drewN _) (by rw [List.length_append]; exact hmB) hBr).mono ?_; rintro e w3 ⟨rfl, hA3, hB3⟩))
              have hBr3 : B ≤ w3.heap.size := Nat.le_trans hBr hB3.size
              have HB3 := Lib.hid hB3
              clear hB3
              go_wp2_with (go_at_call 64; refine (aswWrite B p _ val _ hA3 (by rw [List.length_append, List.length_append, show m.data.toList.length = m.size by simp]; exact hmC) hBr3).mono ?_; rintro e w4 ⟨rfl, hA4, hB4⟩)
              go_roundg (2 * (s.size + 1 - (i + key.size)) + (if true then 1 else 0))
              case rel => exact HREL.out true _ HEM.out hA4 ((Below.trans (below_drewN HB.out _) HB3.out).trans hB4)
              case measure => exact HDEC.out true HEM.out
        · have hbest := best_none l n (by have := HL.out; omega) (s.data.toList.drop i) (!em) hf
          rw [← HSD.out] at hbest
          have HBE := Lib.hid hbest
          have hh := hit_noneAt HL.out hf
          have REL : ∀ (k : Nat), GwRel w B p acc0 l s (2 * (s.size + 1 - (i + 1)) + 1) (.int .i64 (acc.length : Nat)) .nilIface (.int .i64 last) (.bool false) (.int .i64 ((i + 1 : Nat) : Int)) (wr.drewN k) := fun k => by
            refine ⟨i + 1, last, true, acc, rfl, rfl, rfl, rfl, rfl, by omega, hls, by omega, HA.out.drewN k, below_drewN HB.out k, Nat.le_refl _, fun hi1 => ?_, fun hi1 => ?_⟩
            · have hil : i < s.data.toList.length := by rw [HSL.out]; omega
              have hd : s.data.toList.drop i = s.data.toList[i] :: s.data.toList.drop (i + 1) := List.drop_eq_getElem_cons hil
              rw [hd] at hh
              rw [← HRi, hd, rep_cons hh, show i + 1 - last = (i - last) + 1 by omega, List.take_succ_eq_append_getElem (by rw [List.length_drop, HSL.out]; omega)]
              rw [List.getElem_drop]
              simp only [show last + (i - last) = i by omega, List.append_assoc, List.cons_append, List.nil_append]
            · obtain rfl : i = s.size := by omega
              have hd : s.data.toList.drop s.size = [] := List.drop_eq_nil_of_le (Nat.le_of_eq HSL.out)
              rw [hd] at hh
              rw [← HRi, hd, rep_nil hh, List.append_nil, List.take_of_length_le (by rw [List.length_drop, HSL.out]; exact Nat.le_refl _)]
          have HREL := Lib.hid REL
          clear REL hbest hf hh HRi hdl hmid
          rcases HW.out with hw | ⟨hw1, hw2⟩ | ⟨hlt, hw1, hw2, hw3, hw4, hw5, ⟨c, hw6⟩, hw7⟩
          · go_wp2_with (go_at_call 53; refine (HLK.out _ HT.out HRP.out (idxU_le_ts u) HPL.out hes).mono ?_; rintro e w2 ⟨k, rfl, rfl⟩; rw [HBE.out]; simp only [bv, bn, bf])
            go_roundg (2 * (s.size + 1 - (i + 1)) + 1)
            case rel => exact HREL.out _
            case measure => have hm := HGK.out; omega
          · go_wp2_with (go_at_call 53; refine (HLK.out _ HT.out HRP.out (idxU_le_ts u) HPL.out hes).mono ?_; rintro e w2 ⟨k, rfl, rfl⟩; rw [HBE.out]; simp only [bv, bn, bf])
            go_roundg (2 * (s.size + 1 - (i + 1)) + 1)
            case rel => exact HREL.out _
            case measure => have hm := HGK.out; omega
          · have i3 : (i : Int) < s.size := by omega
            have i5 : (s[i].toNat : Int) < 256 := by have := s[i].toNat_lt; omega
            go_wp2_with fail
            go_quiet (fail)
            go_wp2_with (go_at_call 53; refine (HLK.out _ (HT.out.drewN _) (HRP.out.drewN _) (idxU_le_ts u) HPL.out hes).mono ?_; rintro e w2 ⟨k, rfl, rfl⟩; rw [HBE.out]; simp only [bv, bn, bf])
            go_roundg (2 * (s.size + 1 - (i + 1)) + 1)
            case rel => have := HREL.out; first | exact this _ | (rw [World.drewN_drewN]; exact this _)
            case measure => have hm := HGK.out; omega
    · obtain rfl : i = s.size + 1 := by omega
      have hend := HR2.out rfl
      have i1 : ¬ ((s.size : Int) + 1 ≤ s.size) := by omega
      have i1' : ¬ (((s.size + 1 : Nat) : Int) ≤ s.size) := by omega
      by_cases hls2 : last = s.size
      · have i2 : ((last : Int) != s.size) = false := by rw [hls2]; simp
        have hfin : acc = rep (prs l) true s.data.toList := by
          rw [← hend, hls2, List.drop_eq_nil_of_le (Nat.le_of_eq HSL.out), List.append_nil]
        have HF := Lib.hid hfin
        clear hend hfin hls2
        go_wp2_with fail
        go_ret2
        rw [← HF.out]
        exact ⟨rfl, HA.out, HB.out⟩
      · have i2 : ((last : Int) != s.size) = true := bne_iff_ne.2 (by omega)
        have hcut := cutTail s last hls
        have hsd : (s.extract last s.size).data.toList = s.data.toList.drop last := by rw [Lib.extract_to_end]
        have hms : (s.extract last s.size).size = s.size - last := by simp
        have hln : acc0.length + (acc.length + (s.size - last)) ≤ 140737488355328 := by
          have := HO.out
          rw [← hend, List.length_append, List.length_drop, HSL.out] at this
          exact this
        obtain ⟨m, hm⟩ : ∃ m, m = s.extract last s.size := ⟨_, rfl⟩
        rw [← hm] at hcut hsd hms
        have hmA : (acc.length : Int) + m.size ≤ 140737488355328 := by omega
        have hmB : acc0.length + acc.length + m.size ≤ 140737488355328 := by omega
        have hfin : acc ++ m.data.toList = rep (prs l) true s.data.toList := by rw [← hend, hsd]
        have HF := Lib.hid hfin
        clear hend hfin hm hms hsd hls2 hln
        go_wp2_with fail
        go_region_held3 (fun w' => True) (trivial) ((go_at_call 64; refine (aswWrite B p _ m _ (HA.out.drewN _) (by rw [List.length_append]; exact hmB) hBr).mono ?_; rintro e w3 ⟨rfl, hA3, hB3⟩))
        go_wp2_with fail
        go_ret2
        rw [← HF.out]
        refine ⟨?_, by rw [← List.append_assoc]; exact hA3, (below_drewN HB.out _).trans hB3⟩
        rw [List.length_append, show m.data.toList.length = m.size by simp]
        push_cast
        rfl
end Go.Proofs.Ytlhlehmmaoadgaa
