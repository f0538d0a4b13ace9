/- The hash from behind and the search of Rabin and Karp from behind, over rows of bytes: they return what the library's plain functions say of the bytes. -/
import Derived.Test.YtpdlndpimfphlaaBytes
import Derived.Lib.LastIndexLaws
import Derived.Shelf.Strings.LastIndexAll
import Derived.RegionTactic
import Derived.Deep.QuietTactic
import Derived.BigQuiet
import Derived.Deep.Draws
import Derived.IntWalk
namespace Go.Proofs.Ytpdlndpimfphlaa
open Go.RowKit Go.Lib
set_option linter.unusedVariables false

set_option maxHeartbeats 1600000 in
theorem hashRevRow (b o c : Nat) (sep : ByteArray) (hs : sep.size < 4611686018427387904) (w : World) (hr : Row w b o sep) :
    Calls Try.prog 62 #[.slice (some ⟨b, o, none⟩) sep.size c] w fun e w' => e = .returned (.tuple #[.int .u32 (RK.H sep.data.toList.reverse % 4294967296), .int .u32 (16777619 ^ sep.size % 4294967296)]) ∧ w = w' := by
  have Hr := Lib.hid hr
  clear hr
  go_enter Try.func62, Try.ntmps62
  go_wp2
  go_loop [4, 5] (fun vh vi => ∃ (k : Nat) (h : Int), k ≤ sep.size ∧ vi = .int .i64 ((k : Int) - 1) ∧ vh = .int .u32 h ∧ Hid (h = RK.H (sep.data.toList.drop k).reverse % 4294967296)) (fun _ vi => ((RowKit.intOf vi) + 1).toNat)
  case atStart => exact ⟨sep.size, 0, Nat.le_refl _, rfl, rfl, by show (0 : Int) = _; rw [List.drop_of_length_le (by simp)]; rfl⟩
  case round =>
    obtain ⟨k, h, hk, rfl, rfl, hh⟩ := hrel
    by_cases k1 : 1 ≤ k
    · have hc := Hr.out (k - 1) (by omega)
      go_wp2
      go_round
      case rel => exact ⟨k - 1, _, by omega, by congr 1; omega, rfl, LastIndex.hashrev_step sep k k1 hk hh.out⟩
      case measure => simp [RowKit.intOf]; omega
    · have hk2 : k = 0 := by omega
      subst hk2
      go_wp2
      go_loop [6, 7, 8] (fun vp vq vi => ∃ (i : Nat) (pw sq : Int), vi = .int .i64 i ∧ vp = .int .u32 pw ∧ vq = .int .u32 sq ∧ 0 ≤ pw ∧ pw < 4294967296 ∧ i ≤ sep.size ∧ Hid (RK.PowInv sep.size i pw sq)) (fun _ _ vi => (RowKit.intOf vi).toNat)
      case atStart => exact ⟨sep.size, 1, 16777619, rfl, rfl, rfl, by omega, by omega, Nat.le_refl _, RK.pow_start _⟩
      case round =>
        obtain ⟨i, pw, sq, rfl, rfl, rfl, p0, p1, hi, hinv⟩ := hrel
        have ea := and_one i (by omega)
        go_wp2
        · have ht : ((i : Int) % 2 != 0) = true := by assumption
          have ho : i % 2 = 1 := by simp at ht; omega
          go_round
          case rel => exact ⟨i / 2, _, _, by first | go_num | (congr 1; omega), rfl, rfl, by omega, by omega, by omega, RK.pow_odd hinv.out ho⟩
          case measure => simp [RowKit.intOf]; omega
        · have ht : ((i : Int) % 2 != 0) = false := by assumption
          have he : i % 2 = 0 := by simp at ht; omega
          go_round
          case rel => exact ⟨i / 2, _, _, by first | go_num | (congr 1; omega), rfl, rfl, p0, p1, by omega, RK.pow_even hinv.out he⟩
          case measure => simp [RowKit.intOf]; omega
        · have hi0 : i = 0 := by omega
          subst hi0
          have e1 : h = RK.H sep.data.toList.reverse % 4294967296 := by
            have := hh.out
            rwa [List.drop_zero] at this
          have e2 := RK.pow_end hinv.out p0 p1
          go_ret2
          rw [← e1, ← e2]
          exact ⟨rfl, rfl⟩

/-- the piece of a row as a text -/
theorem piece (w : World) (b o cap : Nat) (s : ByteArray) (h : Row w b o s) (i m : Nat) (hm : i + m ≤ s.size) (n : Nat) :
    (convert 24 9 (.slice (some ⟨b, o + i, none⟩) m cap)).run Try.prog (w.drewN n) = .ok (.string (s.extract i (i + m))) (w.drewN n) := by
  have := hback (w.drewN n) b (o + i) cap (s.extract i (i + m)) ((h.sub i (i + m) hm).drewN n)
  rwa [show (s.extract i (i + m)).size = m by simp; omega] at this

set_option maxHeartbeats 16000000 in
theorem lastRKRow (b1 o1 c1 b2 o2 c2 : Nat) (s sep : ByteArray) (h1 : 1 ≤ sep.size) (h2 : sep.size ≤ s.size) (hc1 : s.size ≤ c1) (hs : s.size < 4611686018427387904) (w : World) (r1 : Row w b1 o1 s) (r2 : Row w b2 o2 sep) :
    Calls Try.prog 48 #[.slice (some ⟨b1, o1, none⟩) s.size c1, .slice (some ⟨b2, o2, none⟩) sep.size c2] w fun e w' => e = .returned (.int .i64 (Lib.lastIndex s.data.toList sep.data.toList)) ∧ ∃ n, w' = w.drewN n := by
  obtain ⟨hh, Hh⟩ : ∃ hh : Int, hh = RK.H sep.data.toList.reverse % 4294967296 := ⟨_, rfl⟩
  obtain ⟨pw, Hp⟩ : ∃ pw : Int, pw = 16777619 ^ sep.size % 4294967296 := ⟨_, rfl⟩
  have hc : ∀ w, Row w b2 o2 sep → Calls Try.prog 62 #[.slice (some ⟨b2, o2, none⟩) sep.size c2] w fun e w' => e = .returned (.tuple #[.int .u32 hh, .int .u32 pw]) ∧ w = w' := fun w hr => by rw [Hh, Hp]; exact hashRevRow b2 o2 c2 sep (by omega) w hr
  have HH := Lib.hid Hh
  have HP := Lib.hid Hp
  clear Hh Hp
  have Hc := Lib.hid hc
  clear hc
  obtain ⟨last, hlast⟩ : ∃ last : Nat, last + sep.size = s.size := ⟨s.size - sep.size, by omega⟩
  have elast : (s.size : Int) - sep.size = last := by omega
  have HL : Hid (Lib.lastIndex s.data.toList sep.data.toList = Lib.lastOcc s.data.toList sep.data.toList (last + 1)) := by
    show _ = _
    unfold Lib.lastIndex
    rw [if_pos (by simp; omega)]
    congr 1
    simp; omega
  have R1 := Lib.hid r1
  have R2 := Lib.hid r2
  have w2 := fun n => hback (w.drewN n) b2 o2 c2 sep (r2.drewN n)
  clear r1 r2
  have Hlast := Lib.hid hlast
  have hl1 : last < s.size := by omega
  have hl2 : last + sep.size ≤ s.size := by omega
  go_enter Try.func48, Try.ntmps48
  go_wp2_with (go_at_call 62; refine (Hc.out _ R2.out).mono ?_; rintro e w' ⟨rfl, rfl⟩)
  go_loop [9, 10] (fun vh vi => ∃ (k : Nat) (h : Int), last ≤ k ∧ k ≤ s.size ∧ vi = .int .i64 ((k : Int) - 1) ∧ vh = .int .u32 h ∧ Hid (h = RK.H (s.data.toList.drop k).reverse % 4294967296)) (fun _ vi => ((RowKit.intOf vi) + 1).toNat)
  case atStart => exact ⟨s.size, 0, by omega, Nat.le_refl _, rfl, rfl, by show (0 : Int) = _; rw [List.drop_of_length_le (by simp)]; rfl⟩
  case round =>
    obtain ⟨k, h, hk1, hk, rfl, rfl, hk2⟩ := hrel
    by_cases hkl : last < k
    · have hcell := R1.out (k - 1) (by omega)
      go_wp2
      go_round
      case rel => exact ⟨k - 1, _, by omega, by omega, by congr 1; omega, rfl, LastIndex.hashrev_step s k (by omega) hk hk2.out⟩
      case measure => simp [RowKit.intOf]; omega
    · have hkl : k = last := by omega
      subst hkl
      have hpc : ∀ n, (convert 24 9 (.slice (some ⟨b1, o1 + k, none⟩) (s.size - k) (c1 - k))).run Try.prog (w.drewN n) = .ok (.string (s.extract k s.size)) (w.drewN n) := fun n => by
        have := piece w b1 o1 (c1 - k) s R1.out k (s.size - k) (by omega) n
        rwa [show k + (s.size - k) = s.size by omega] at this
      have hwin : h = RK.H (RK.win s.data.toList k sep.size).reverse % 4294967296 := by
        have := hk2.out
        rwa [show s.data.toList.drop k = RK.win s.data.toList k sep.size from (List.take_of_length_le (by simp; omega)).symm] at this
      have Hwin := Lib.hid hwin
      clear hk2 hwin
      by_cases hit : (h == hh) = true ∧ ((s.extract k s.size).toList == sep.toList) = true
      · obtain ⟨t1, t2⟩ := hit
        have ho := occ_yes s sep k (by omega) (by rw [hlast]; exact t2)
        have Hf := Lib.hid (HL.out.trans (Lib.lastOcc_hit _ _ k ho))
        clear ho
        go_wp2
        go_quiet (fail)
        go_wp2
        go_ret
        rw [Hf.out]
        exact ⟨rfl, _, rfl⟩
      · have hno : occAt s.data.toList sep.data.toList k = false := by
          by_cases e : (h == hh) = true
          · have : ((s.extract k s.size).toList == sep.toList) = false := by
              cases hq : ((s.extract k s.size).toList == sep.toList) with
              | false => rfl
              | true => exact absurd ⟨e, hq⟩ hit
            exact occ_no s sep k (by omega) (by rw [hlast]; exact this)
          · exact LastIndex.occ_no_hashrev s sep k (by omega) Hwin.out HH.out (by simpa using e)
        have HL2 : Hid (Lib.lastIndex s.data.toList sep.data.toList = Lib.lastOcc s.data.toList sep.data.toList k) := HL.out.trans (Lib.lastOcc_miss _ _ k hno)
        have hcase : (h == hh) = false ∨ ((h == hh) = true ∧ ((s.extract k s.size).toList == sep.toList) = false) := by
          cases e : (h == hh) with
          | false => exact .inl rfl
          | true =>
            right
            refine ⟨rfl, ?_⟩
            cases hq : ((s.extract k s.size).toList == sep.toList) with
            | false => rfl
            | true => exact absurd ⟨e, hq⟩ hit
        clear hit hno HL
        rcases hcase with t1 | ⟨t1, t2⟩
        all_goals
          go_wp2
          go_quiet (fail)
          go_wp2
          clear t1
          go_loopw [9, 11] (fun vh vi wr => ∃ (j n : Nat) (g : Int), wr = w.drewN n ∧ j ≤ k ∧ vi = .int .i64 ((j : Int) - 1) ∧ vh = .int .u32 g ∧ Hid (g = RK.H (RK.win s.data.toList j sep.size).reverse % 4294967296) ∧ Hid (Lib.lastIndex s.data.toList sep.data.toList = Lib.lastOcc s.data.toList sep.data.toList j)) (fun _ vi _ => ((RowKit.intOf vi) + 1).toNat)
          case atStart => exact ⟨k, _, _, rfl, Nat.le_refl _, rfl, rfl, Hwin, HL2⟩
          case round =>
            obtain ⟨j, n, g, rfl, hj, rfl, rfl, hg, hl⟩ := hrel
            by_cases hj1 : 1 ≤ j
            · have ej : j - 1 + 1 = j := by omega
              have hg' : g = RK.H (RK.win s.data.toList (j - 1 + 1) sep.size).reverse % 4294967296 := by rw [ej]; exact hg.out
              have Ej := Lib.hid ej
              clear ej
              have HR := Lib.hid (LastIndex.rollrev_step s sep.size (j - 1) h1 (by omega) hg' HP.out)
              clear hg'
              have hc3 := R1.out (j - 1) (by omega)
              have hc4 := R1.out (j - 1 + sep.size) (by omega)
              have hb1 : j - 1 < s.size := by omega
              have hb2 : j - 1 + sep.size < s.size := by omega
              obtain ⟨G, hG⟩ : ∃ G : Int, ((g * 16777619 + (s[j - 1].toNat : Int)) % 4294967296 - pw * ((s[j - 1 + sep.size].toNat : Int) % 4294967296) % 4294967296) % 4294967296 = G := ⟨_, rfl⟩
              have HG : Hid (G = RK.H (RK.win s.data.toList (j - 1) sep.size).reverse % 4294967296) := by
                show _ = _
                rw [← HR.out, ← hG]
                generalize pw * ((s[j - 1 + sep.size].toNat : Int) % 4294967296) = T
                omega
              have hpj : ∀ n, (convert 24 9 (.slice (some ⟨b1, o1 + (j - 1), none⟩) sep.size (c1 - (j - 1)))).run Try.prog (w.drewN n) = .ok (.string (s.extract (j - 1) (j - 1 + sep.size))) (w.drewN n) := fun n => piece w b1 o1 (c1 - (j - 1)) s R1.out (j - 1) sep.size (by omega) n
              have hwr : IntKind.i64.wrap ((j : Int) - 1 + sep.size) = (j : Int) - 1 + sep.size := IntWalk.i64_in _ (by omega)
              have htn : ((j : Int) - 1 + sep.size).toNat = j - 1 + sep.size := by omega
              go_wp2
              rw [hG]
              by_cases hit : (G == hh) = true ∧ ((s.extract (j - 1) (j - 1 + sep.size)).toList == sep.toList) = true
              · obtain ⟨t1, t2⟩ := hit
                have ho := occ_yes s sep (j - 1) (by omega) t2
                have e3 : Lib.lastOcc s.data.toList sep.data.toList j = ((j - 1 : Nat) : Int) := by
                  have := Lib.lastOcc_hit _ _ (j - 1) ho
                  rwa [Ej.out] at this
                have Hf := Lib.hid (hl.out.trans e3)
                clear ho e3
                go_quiet (fail)
                go_wp2
                go_ret
                rw [Hf.out, show ((j - 1 : Nat) : Int) = (j : Int) - 1 by omega]
                exact ⟨rfl, by first | exact ⟨_, rfl⟩ | exact ⟨_, World.drewN_drewN _ _ _⟩⟩
              · have hcase : (G == hh) = false ∨ ((G == hh) = true ∧ ((s.extract (j - 1) (j - 1 + sep.size)).toList == sep.toList) = false) := by
                  cases e : (G == hh) with
                  | false => exact .inl rfl
                  | true =>
                    right
                    refine ⟨rfl, ?_⟩
                    cases hq : ((s.extract (j - 1) (j - 1 + sep.size)).toList == sep.toList) with
                    | false => rfl
                    | true => exact absurd ⟨e, hq⟩ hit
                have hno : occAt s.data.toList sep.data.toList (j - 1) = false := by
                  rcases hcase with e | ⟨e, hq⟩
                  · exact LastIndex.occ_no_hashrev s sep (j - 1) (by omega) HG.out HH.out (by simpa using e)
                  · exact occ_no s sep (j - 1) (by omega) hq
                have e3 : Lib.lastOcc s.data.toList sep.data.toList j = Lib.lastOcc s.data.toList sep.data.toList (j - 1) := by
                  have := Lib.lastOcc_miss _ _ (j - 1) hno
                  rwa [Ej.out] at this
                have Hf := Lib.hid (hl.out.trans e3)
                clear hno e3 hit hG
                rcases hcase with t1 | ⟨t1, t2⟩
                all_goals
                  go_quiet (fail)
                  go_wp2
                  clear t1
                  go_roundw
                  case rel => exact ⟨j - 1, _, _, rfl, by omega, by congr 1; omega, rfl, HG, Hf⟩
                  case measure => simp [RowKit.intOf]; omega
            · have j0 : j = 0 := by omega
              subst j0
              go_wp2
              go_ret
              rw [hl.out]
              exact ⟨rfl, n, rfl⟩
end Go.Proofs.Ytpdlndpimfphlaa
