/- Contracts of the hashes and searches of Rabin and Karp and of LastIndex (strings): each returns what the plain function of the library says, and leaves the world as it was. Condition: the texts are shorter than 2^62 bytes. -/
import Derived.Test.YtocegdangdcicaaRows
import Derived.WalkKit
import Derived.WalkSpells
import Derived.WalkLawsBesides
import Derived.Lib.Walk
import Derived.Lib.Strings
import Derived.Lib.Slices
import Derived.Lib.Bytealg
import Derived.BigCall
import Derived.BigGuard
import Derived.Deep.Draws
import Derived.Laws.Strings3
import Derived.Lib.RabinKarpLaws
import Derived.Lib.LastIndexLaws
import Derived.Shelf.Strings.LastIndexAll
namespace Go.Proofs.Ytocegdangdcicaa
open Go.Shelf Go.RowKit Go.Lib

set_option maxHeartbeats 1600000 in
theorem hashStr (sep : ByteArray) (hs : sep.size < 4611686018427387904) (w : World) :
    Calls Try.prog 48 #[.string sep] w fun e w' => e = .returned (.tuple #[.int .u32 (RK.H sep.data.toList % 4294967296), .int .u32 (16777619 ^ sep.size % 4294967296)]) ∧ w' = w := by
  go_enter Try.func48, Try.ntmps48
  go_wp2
  go_loop [4, 5] (fun vh vi => ∃ (k : Nat) (h : Int), k ≤ sep.size ∧ vi = .int .i64 k ∧ vh = .int .u32 h ∧ Hid (h = RK.H (sep.data.toList.take k) % 4294967296)) (fun _ vi => sep.size - (RowKit.intOf vi).toNat)
  case atStart => exact ⟨0, 0, Nat.zero_le _, rfl, rfl, rfl⟩
  case round =>
    obtain ⟨k, h, hk, rfl, rfl, hh⟩ := hrel
    go_wp2
    · have hlt : k < sep.size := by assumption
      go_round
      case rel => exact ⟨k + 1, _, by omega, by go_num, rfl, hash_step sep k hlt hh.out⟩
      case measure => simp [RowKit.intOf]; omega
    · have hk2 : k = sep.size := by omega
      subst hk2
      go_loop [6, 7, 8] (fun vp vq vi => ∃ (i : Nat) (pw sq : Int), vi = .int .i64 i ∧ vp = .int .u32 pw ∧ vq = .int .u32 sq ∧ 0 ≤ pw ∧ pw < 4294967296 ∧ i ≤ sep.size ∧ Hid (RK.PowInv sep.size i pw sq)) (fun _ _ vi => (RowKit.intOf vi).toNat)
      case atStart => exact ⟨sep.size, 1, 16777619, rfl, rfl, rfl, by omega, by omega, Nat.le_refl _, RK.pow_start _⟩
      case round =>
        obtain ⟨i, pw, sq, rfl, rfl, rfl, p0, p1, hi, hinv⟩ := hrel
        have ea := and_one i (by omega)
        go_wp2
        · -- i is odd: 'pow *= sq'
          have ht : ((i : Int) % 2 != 0) = true := by assumption
          have ho : i % 2 = 1 := by simp at ht; omega
          go_round
          case rel => exact ⟨i / 2, _, _, by first | go_num | (congr 1; omega), rfl, rfl, by omega, by omega, by omega, RK.pow_odd hinv.out ho⟩
          case measure => simp [RowKit.intOf]; omega
        · have ht : ((i : Int) % 2 != 0) = false := by assumption
          have he : i % 2 = 0 := by simp at ht; omega
          go_round
          case rel => exact ⟨i / 2, _, _, by first | go_num | (congr 1; omega), rfl, rfl, p0, p1, by omega, RK.pow_even hinv.out he⟩
          case measure => simp [RowKit.intOf]; omega
        · have hi0 : i = 0 := by omega
          subst hi0
          have e1 : h = RK.H sep.data.toList % 4294967296 := by
            have := hh.out
            rwa [List.take_of_length_le (by simp)] at this
          have e2 := RK.pow_end hinv.out p0 p1
          go_ret2
          rw [← e1, ← e2]
          exact ⟨rfl, rfl⟩

set_option maxHeartbeats 3200000 in
theorem indexRK (s sep : ByteArray) (h1 : 1 ≤ sep.size) (h2 : sep.size ≤ s.size) (hs : s.size < 4611686018427387904) (w : World) :
    Calls Try.prog 41 #[.string s, .string sep] w fun e w' => e = .returned (.int .i64 (Lib.index s.data.toList sep.data.toList)) ∧ w' = w := by
  obtain ⟨hh, Hh⟩ : ∃ hh : Int, hh = RK.H sep.data.toList % 4294967296 := ⟨_, rfl⟩
  obtain ⟨pw, Hp⟩ : ∃ pw : Int, pw = 16777619 ^ sep.size % 4294967296 := ⟨_, rfl⟩
  have hc : ∀ w, Calls Try.prog 48 #[.string sep] w fun e w' => e = .returned (.tuple #[.int .u32 hh, .int .u32 pw]) ∧ w' = w := fun w => by rw [Hh, Hp]; exact hashStr sep (by omega) w
  have HH := hid Hh
  have HP := hid Hp
  have hsl0 : Hid (s.data.toList.length = s.size) := by show _ = _; simp
  have Hpl : Hid (sep.data.toList.length = sep.size) := by show _ = _; simp
  clear Hh Hp
  go_enter Try.func41, Try.ntmps41
  go_wp2_with (go_at_call 48; refine (hc _).mono ?_; rintro e w' ⟨rfl, rfl⟩)
  go_loop [8, 9] (fun vh vi => ∃ (k : Nat) (h : Int), k ≤ sep.size ∧ vi = .int .i64 k ∧ vh = .int .u32 h ∧ Hid (h = RK.H (s.data.toList.take k) % 4294967296)) (fun _ vi => sep.size - (RowKit.intOf vi).toNat)
  case atStart => exact ⟨0, 0, Nat.zero_le _, rfl, rfl, rfl⟩
  case round =>
    obtain ⟨k, h, hk, rfl, rfl, hk2⟩ := hrel
    go_wp2
    · have hlt : k < sep.size := by assumption
      go_round
      case rel => exact ⟨k + 1, _, by omega, by go_num, rfl, hash_step s k (by omega) hk2.out⟩
      case measure => simp [RowKit.intOf]; omega
    · -- the first window is the needle: 'return 0'
      have hcmp : ((s.extract 0 sep.size).toList == sep.toList) = true := by assumption
      go_ret
      have ho := occ_yes s sep 0 (by omega) (by rw [Nat.zero_add]; exact hcmp)
      rw [index_hit (NoOcc.zero _ _) (Nat.zero_le _) ho]
      exact ⟨rfl, rfl⟩
    · -- the hashes are one, the strings part
      have hcmp : ((s.extract 0 sep.size).toList == sep.toList) = false := by assumption
      have ehh : h = hh := by assumption
      subst ehh
      have hkn : k = sep.size := by omega
      subst hkn      -- (left lying, the walk would take it for a rule and write k out in the frame: the round's end would find a frame that is not, to the letter, the loop's)
      have hno : NoOcc s.data.toList sep.data.toList 1 := (NoOcc.zero _ _).succ (occ_no s sep 0 (by omega) (by rw [Nat.zero_add]; exact hcmp))
      have hwin : h = RK.H (RK.win s.data.toList 0 sep.size) % 4294967296 := hk2.out
      have Hno := hid hno
      have Hwin := hid hwin
      clear hcmp hk2 hno hwin
      -- THE SEARCH: 'for i := n; i < len(s); {'
      go_loop [8, 10] (fun vh vi => ∃ (i : Nat) (g : Int), sep.size ≤ i ∧ i ≤ s.size ∧ vi = .int .i64 i ∧ vh = .int .u32 g ∧ Hid (g = RK.H (RK.win s.data.toList (i - sep.size) sep.size) % 4294967296) ∧ Hid (NoOcc s.data.toList sep.data.toList (i - sep.size + 1)))
        (fun _ vi => s.size - (RowKit.intOf vi).toNat)
      case atStart => exact ⟨sep.size, _, Nat.le_refl _, h2, rfl, rfl, by rw [Nat.sub_self]; exact Hwin, by rw [Nat.sub_self]; exact Hno⟩
      case round =>
        obtain ⟨i, g, hi1, hi2, rfl, rfl, hg, hn⟩ := hrel
        by_cases hlt : i < s.size
        · -- THE PIECE 's[i-n:i]' (i is one further by then): ITS EQUATION, for the walk to take (the rule's three premises are not found by the walk's simp, though they lie there to the letter)
          have hsl : ∀ w, (Instr.slice 9 (.string s) (some (.int .i64 ((i : Int) + 1 - sep.size))) (some (.int .i64 ((i : Int) + 1))) none).run Try.prog w = .ok (.string (s.extract (i + 1 - sep.size) (i + 1))) w := fun w => by
            rw [run_slice_string w 9 s .i64 .i64 _ _ Try.underlying9 (by omega) (by omega) (by omega), show ((i : Int) + 1 - sep.size).toNat = i + 1 - sep.size by omega, show ((i : Int) + 1).toNat = i + 1 by omega]
          -- THE WINDOW HAS MOVED ON BY ONE
          have HR := hid (roll_step s sep.size i h1 hi1 hlt hg.out HP.out)
          have ej : i - sep.size + 1 = i + 1 - sep.size := by omega
          have ee : i + 1 - sep.size + sep.size = i + 1 := by omega
          go_wp2
          · -- A HIT: 'return i - n'
            have hcmp : ((s.extract (i + 1 - sep.size) (i + 1)).toList == sep.toList) = true := by assumption
            go_ret
            have ho := occ_yes s sep (i + 1 - sep.size) (by omega) (by rw [ee]; exact hcmp)
            rw [index_hit (i := i + 1 - sep.size) (by rw [← ej]; exact hn.out) (by rw [hsl0.out]; omega) ho]
            refine ⟨?_, rfl⟩
            show Ending.returned (Value.int .i64 ((i : Int) + 1 - sep.size)) = _
            congr 2
            omega
          · -- the hashes are one, the strings part
            have hcmp : ((s.extract (i + 1 - sep.size) (i + 1)).toList == sep.toList) = false := by assumption
            have hn' : NoOcc s.data.toList sep.data.toList (i + 1 - sep.size + 1) := by
              rw [← ej]; exact hn.out.succ (by rw [ej]; exact occ_no s sep (i + 1 - sep.size) (by omega) (by rw [ee]; exact hcmp))
            have heq : (g * 16777619 + (s[i].toNat : Int) - pw * ((s[i - sep.size].toNat : Int) % 4294967296)) % 4294967296 = h := by assumption      -- (by it the walk has written the needle's hash into the slot)
            go_round
            case rel => exact ⟨i + 1, _, by omega, by omega, by go_num, rfl, heq.symm.trans HR.out, hn'⟩
            case measure => simp [RowKit.intOf]; omega
          · -- the hashes part
            have hne : ¬ (g * 16777619 + (s[i].toNat : Int) - pw * ((s[i - sep.size].toNat : Int) % 4294967296)) % 4294967296 = h := by assumption
            have hn' : NoOcc s.data.toList sep.data.toList (i + 1 - sep.size + 1) := by
              rw [← ej]; exact hn.out.succ (by rw [ej]; exact occ_no_hash s sep (i + 1 - sep.size) (by omega) HR.out HH.out hne)
            go_round
            case rel => exact ⟨i + 1, _, by omega, by omega, by go_num, rfl, HR.out, hn'⟩
            case measure => simp [RowKit.intOf]; omega
        · go_wp2
          go_ret
          have hpl := Hpl.out
          rw [index_past (fun e => by rw [e] at hpl; simp at hpl; omega) hn.out (by rw [hsl0.out, hpl]; omega)]
          exact ⟨rfl, rfl⟩
    · -- the hashes part
      have hne : ¬ h = hh := by assumption
      have hkn : k = sep.size := by omega
      subst hkn
      have hwin : h = RK.H (RK.win s.data.toList 0 sep.size) % 4294967296 := hk2.out
      have hno : NoOcc s.data.toList sep.data.toList 1 := (NoOcc.zero _ _).succ (occ_no_hash s sep 0 (by omega) hwin HH.out hne)
      have Hno := hid hno
      have Hwin := hid hwin
      clear hk2 hno hwin
      -- THE SEARCH: 'for i := n; i < len(s); {'
      go_loop [8, 10] (fun vh vi => ∃ (i : Nat) (g : Int), sep.size ≤ i ∧ i ≤ s.size ∧ vi = .int .i64 i ∧ vh = .int .u32 g ∧ Hid (g = RK.H (RK.win s.data.toList (i - sep.size) sep.size) % 4294967296) ∧ Hid (NoOcc s.data.toList sep.data.toList (i - sep.size + 1)))
        (fun _ vi => s.size - (RowKit.intOf vi).toNat)
      case atStart => exact ⟨sep.size, _, Nat.le_refl _, h2, rfl, rfl, by rw [Nat.sub_self]; exact Hwin, by rw [Nat.sub_self]; exact Hno⟩
      case round =>
        obtain ⟨i, g, hi1, hi2, rfl, rfl, hg, hn⟩ := hrel
        by_cases hlt : i < s.size
        · -- THE PIECE 's[i-n:i]' (i is one further by then): ITS EQUATION, for the walk to take (the rule's three premises are not found by the walk's simp, though they lie there to the letter)
          have hsl : ∀ w, (Instr.slice 9 (.string s) (some (.int .i64 ((i : Int) + 1 - sep.size))) (some (.int .i64 ((i : Int) + 1))) none).run Try.prog w = .ok (.string (s.extract (i + 1 - sep.size) (i + 1))) w := fun w => by
            rw [run_slice_string w 9 s .i64 .i64 _ _ Try.underlying9 (by omega) (by omega) (by omega), show ((i : Int) + 1 - sep.size).toNat = i + 1 - sep.size by omega, show ((i : Int) + 1).toNat = i + 1 by omega]
          -- THE WINDOW HAS MOVED ON BY ONE
          have HR := hid (roll_step s sep.size i h1 hi1 hlt hg.out HP.out)
          have ej : i - sep.size + 1 = i + 1 - sep.size := by omega
          have ee : i + 1 - sep.size + sep.size = i + 1 := by omega
          go_wp2
          · -- A HIT: 'return i - n'
            have hcmp : ((s.extract (i + 1 - sep.size) (i + 1)).toList == sep.toList) = true := by assumption
            go_ret
            have ho := occ_yes s sep (i + 1 - sep.size) (by omega) (by rw [ee]; exact hcmp)
            rw [index_hit (i := i + 1 - sep.size) (by rw [← ej]; exact hn.out) (by rw [hsl0.out]; omega) ho]
            refine ⟨?_, rfl⟩
            show Ending.returned (Value.int .i64 ((i : Int) + 1 - sep.size)) = _
            congr 2
            omega
          · -- the hashes are one, the strings part
            have hcmp : ((s.extract (i + 1 - sep.size) (i + 1)).toList == sep.toList) = false := by assumption
            have hn' : NoOcc s.data.toList sep.data.toList (i + 1 - sep.size + 1) := by
              rw [← ej]; exact hn.out.succ (by rw [ej]; exact occ_no s sep (i + 1 - sep.size) (by omega) (by rw [ee]; exact hcmp))
            have heq : (g * 16777619 + (s[i].toNat : Int) - pw * ((s[i - sep.size].toNat : Int) % 4294967296)) % 4294967296 = hh := by assumption      -- (by it the walk has written the needle's hash into the slot)
            go_round
            case rel => exact ⟨i + 1, _, by omega, by omega, by go_num, rfl, heq.symm.trans HR.out, hn'⟩
            case measure => simp [RowKit.intOf]; omega
          · -- the hashes part
            have hne : ¬ (g * 16777619 + (s[i].toNat : Int) - pw * ((s[i - sep.size].toNat : Int) % 4294967296)) % 4294967296 = hh := by assumption
            have hn' : NoOcc s.data.toList sep.data.toList (i + 1 - sep.size + 1) := by
              rw [← ej]; exact hn.out.succ (by rw [ej]; exact occ_no_hash s sep (i + 1 - sep.size) (by omega) HR.out HH.out hne)
            go_round
            case rel => exact ⟨i + 1, _, by omega, by omega, by go_num, rfl, HR.out, hn'⟩
            case measure => simp [RowKit.intOf]; omega
        · go_wp2
          go_ret
          have hpl := Hpl.out
          rw [index_past (fun e => by rw [e] at hpl; simp at hpl; omega) hn.out (by rw [hsl0.out, hpl]; omega)]
          exact ⟨rfl, rfl⟩

set_option maxHeartbeats 1600000 in
theorem hashStrRev (sep : ByteArray) (hs : sep.size < 4611686018427387904) (w : World) :
    Calls Try.prog 42 #[.string sep] w fun e w' => e = .returned (.tuple #[.int .u32 (RK.H sep.data.toList.reverse % 4294967296), .int .u32 (16777619 ^ sep.size % 4294967296)]) ∧ w' = w := by
  go_enter Try.func42, Try.ntmps42
  go_wp2
  go_loop [4, 5] (fun vh vi => ∃ (k : Nat) (h : Int), k ≤ sep.size ∧ vi = .int .i64 ((k : Int) - 1) ∧ vh = .int .u32 h ∧ Hid (h = RK.H (sep.data.toList.drop k).reverse % 4294967296)) (fun _ vi => ((RowKit.intOf vi) + 1).toNat)
  case atStart => exact ⟨sep.size, 0, Nat.le_refl _, rfl, rfl, by show (0 : Int) = _; rw [List.drop_of_length_le (by simp)]; rfl⟩
  case round =>
    obtain ⟨k, h, hk, rfl, rfl, hh⟩ := hrel
    go_wp2
    · have k1 : 1 ≤ k := by omega
      go_round
      case rel => exact ⟨k - 1, _, by omega, by congr 1; omega, rfl, LastIndex.hashrev_step sep k k1 hk hh.out⟩
      case measure => simp [RowKit.intOf]; omega
    · have hk2 : k = 0 := by omega
      subst hk2
      go_loop [6, 7, 8] (fun vp vq vi => ∃ (i : Nat) (pw sq : Int), vi = .int .i64 i ∧ vp = .int .u32 pw ∧ vq = .int .u32 sq ∧ 0 ≤ pw ∧ pw < 4294967296 ∧ i ≤ sep.size ∧ Hid (RK.PowInv sep.size i pw sq)) (fun _ _ vi => (RowKit.intOf vi).toNat)
      case atStart => exact ⟨sep.size, 1, 16777619, rfl, rfl, rfl, by omega, by omega, Nat.le_refl _, RK.pow_start _⟩
      case round =>
        obtain ⟨i, pw, sq, rfl, rfl, rfl, p0, p1, hi, hinv⟩ := hrel
        have ea := and_one i (by omega)
        go_wp2
        · have ht : ((i : Int) % 2 != 0) = true := by assumption
          have ho : i % 2 = 1 := by simp at ht; omega
          go_round
          case rel => exact ⟨i / 2, _, _, by first | go_num | (congr 1; omega), rfl, rfl, by omega, by omega, by omega, RK.pow_odd hinv.out ho⟩
          case measure => simp [RowKit.intOf]; omega
        · have ht : ((i : Int) % 2 != 0) = false := by assumption
          have he : i % 2 = 0 := by simp at ht; omega
          go_round
          case rel => exact ⟨i / 2, _, _, by first | go_num | (congr 1; omega), rfl, rfl, p0, p1, by omega, RK.pow_even hinv.out he⟩
          case measure => simp [RowKit.intOf]; omega
        · have hi0 : i = 0 := by omega
          subst hi0
          have e1 : h = RK.H sep.data.toList.reverse % 4294967296 := by
            have := hh.out
            rwa [List.drop_zero] at this
          have e2 := RK.pow_end hinv.out p0 p1
          go_ret2
          rw [← e1, ← e2]
          exact ⟨rfl, rfl⟩

set_option maxHeartbeats 16000000 in
theorem lastRK (s sep : ByteArray) (h1 : 1 ≤ sep.size) (h2 : sep.size ≤ s.size) (hs : s.size < 4611686018427387904) (w : World) :
    Calls Try.prog 36 #[.string s, .string sep] w fun e w' => e = .returned (.int .i64 (Lib.lastIndex s.data.toList sep.data.toList)) ∧ w' = w := by
  obtain ⟨hh, Hh⟩ : ∃ hh : Int, hh = RK.H sep.data.toList.reverse % 4294967296 := ⟨_, rfl⟩
  obtain ⟨pw, Hp⟩ : ∃ pw : Int, pw = 16777619 ^ sep.size % 4294967296 := ⟨_, rfl⟩
  have hc : ∀ w, Calls Try.prog 42 #[.string sep] w fun e w' => e = .returned (.tuple #[.int .u32 hh, .int .u32 pw]) ∧ w' = w := fun w => by rw [Hh, Hp]; exact hashStrRev sep (by omega) w
  have HH := hid Hh
  have HP := hid Hp
  clear Hh Hp
  obtain ⟨last, hlast⟩ : ∃ last : Nat, last + sep.size = s.size := ⟨s.size - sep.size, by omega⟩
  have elast : (s.size : Int) - sep.size = last := by omega
  have HL : Hid (Lib.lastIndex s.data.toList sep.data.toList = Lib.lastOcc s.data.toList sep.data.toList (last + 1)) := by
    show _ = _
    unfold Lib.lastIndex
    rw [if_pos (by simp; omega)]
    congr 1
    simp; omega
  go_enter Try.func36, Try.ntmps36
  go_wp2_with (go_at_call 42; refine (hc _).mono ?_; rintro e w' ⟨rfl, rfl⟩)
  go_loop [9, 10] (fun vh vi => ∃ (k : Nat) (h : Int), last ≤ k ∧ k ≤ s.size ∧ vi = .int .i64 ((k : Int) - 1) ∧ vh = .int .u32 h ∧ Hid (h = RK.H (s.data.toList.drop k).reverse % 4294967296)) (fun _ vi => ((RowKit.intOf vi) + 1).toNat)
  case atStart => exact ⟨s.size, 0, by omega, Nat.le_refl _, rfl, rfl, by show (0 : Int) = _; rw [List.drop_of_length_le (by simp)]; rfl⟩
  case round =>
    obtain ⟨k, h, hk1, hk, rfl, rfl, hk2⟩ := hrel
    go_wp2
    · -- the first loop goes on
      have k1 : 1 ≤ k := by omega
      refine ⟨⟨k - 1, _, by omega, by omega, by congr 1; omega, rfl, LastIndex.hashrev_step s k k1 hk hk2.out⟩, ?_⟩
      simp [RowKit.intOf]; omega
    · -- the last window is the needle: 'return last'
      have hcmp : ((s.extract last s.size).toList == sep.toList) = true := by assumption
      go_ret
      have ho := occ_yes s sep last (by omega) (by rw [hlast]; exact hcmp)
      rw [HL.out, Lib.lastOcc_hit _ _ last ho]
      exact ⟨rfl, rfl⟩
    · -- the hashes are one, the strings part
      have hcmp : ((s.extract last s.size).toList == sep.toList) = false := by assumption
      have ehh : h = hh := by assumption
      subst ehh
      have hkl : k = last := by omega
      subst hkl
      have hwin : h = RK.H (RK.win s.data.toList k sep.size).reverse % 4294967296 := by
        have := hk2.out
        rwa [show s.data.toList.drop k = RK.win s.data.toList k sep.size from (List.take_of_length_le (by simp; omega)).symm] at this
      have hno : occAt s.data.toList sep.data.toList k = false := occ_no s sep k (by omega) (by rw [hlast]; exact hcmp)
      have HL2 : Hid (Lib.lastIndex s.data.toList sep.data.toList = Lib.lastOcc s.data.toList sep.data.toList k) := HL.out.trans (Lib.lastOcc_miss _ _ k hno)
      have Hwin := hid hwin
      clear hk2 hwin hno HL
      go_loop [9, 11] (fun vh vi => ∃ (j : Nat) (g : Int), j ≤ k ∧ vi = .int .i64 ((j : Int) - 1) ∧ vh = .int .u32 g ∧ Hid (g = RK.H (RK.win s.data.toList j sep.size).reverse % 4294967296) ∧ Hid (Lib.lastIndex s.data.toList sep.data.toList = Lib.lastOcc s.data.toList sep.data.toList j)) (fun _ vi => ((RowKit.intOf vi) + 1).toNat)
      case atStart => exact ⟨k, _, Nat.le_refl _, rfl, rfl, Hwin, HL2⟩
      case round =>
        obtain ⟨j, g, hj, rfl, rfl, hg, hl⟩ := hrel
        by_cases hj1 : 1 ≤ j
        · have hsl : ∀ w, (Instr.slice 9 (.string s) (some (.int .i64 ((j : Int) - 1))) (some (.int .i64 ((j : Int) - 1 + sep.size))) none).run Try.prog w = .ok (.string (s.extract (j - 1) (j - 1 + sep.size))) w := fun w => by
            rw [run_slice_string w 9 s .i64 .i64 _ _ Try.underlying9 (by omega) (by omega) (by omega), show ((j : Int) - 1).toNat = j - 1 by omega, show ((j : Int) - 1 + sep.size).toNat = j - 1 + sep.size by omega]
          have ej : j - 1 + 1 = j := by omega
          have hg' : g = RK.H (RK.win s.data.toList (j - 1 + 1) sep.size).reverse % 4294967296 := by rw [ej]; exact hg.out
          have HR := hid (LastIndex.rollrev_step s sep.size (j - 1) h1 (by omega) hg' HP.out)
          clear hg'
          go_wp2
          · -- A HIT: 'return i'
            have hcmp : ((s.extract (j - 1) (j - 1 + sep.size)).toList == sep.toList) = true := by assumption
            have ho := occ_yes s sep (j - 1) (by omega) hcmp
            have e3 : Lib.lastOcc s.data.toList sep.data.toList j = ((j - 1 : Nat) : Int) := by
              have := Lib.lastOcc_hit _ _ (j - 1) ho
              rwa [ej] at this
            have e4 : ((j - 1 : Nat) : Int) = (j : Int) - 1 := by omega
            go_ret
            rw [hl.out, e3, e4]
            exact ⟨rfl, rfl⟩
          · -- the hashes are one, the strings part
            have hcmp : ((s.extract (j - 1) (j - 1 + sep.size)).toList == sep.toList) = false := by assumption
            have hn := occ_no s sep (j - 1) (by omega) hcmp
            have e3 : Lib.lastOcc s.data.toList sep.data.toList j = Lib.lastOcc s.data.toList sep.data.toList (j - 1) := by
              have := Lib.lastOcc_miss _ _ (j - 1) hn
              rwa [ej] at this
            have heq : (g * 16777619 + ((s[j - 1]).toNat : Int) - pw * (((s[j - 1 + sep.size]).toNat : Int) % 4294967296)) % 4294967296 = h := by assumption
            go_round
            case rel => exact ⟨j - 1, _, by omega, by congr 1; omega, rfl, heq.symm.trans HR.out, hl.out.trans e3⟩
            case measure => simp [RowKit.intOf]; omega
          · -- the hashes part
            have hne : ¬ (g * 16777619 + ((s[j - 1]).toNat : Int) - pw * (((s[j - 1 + sep.size]).toNat : Int) % 4294967296)) % 4294967296 = h := by assumption
            have hn := LastIndex.occ_no_hashrev s sep (j - 1) (by omega) HR.out HH.out hne
            have e3 : Lib.lastOcc s.data.toList sep.data.toList j = Lib.lastOcc s.data.toList sep.data.toList (j - 1) := by
              have := Lib.lastOcc_miss _ _ (j - 1) hn
              rwa [ej] at this
            refine ⟨⟨j - 1, _, by omega, by congr 1; omega, rfl, HR.out, hl.out.trans e3⟩, ?_⟩
            simp [RowKit.intOf]; omega
        · -- 'return -1'
          have j0 : j = 0 := by omega
          subst j0
          go_wp2
          go_ret
          rw [hl.out]
          exact ⟨rfl, rfl⟩

    · -- the hashes part
      have hne0 : ¬ h = hh := by assumption
      have hkl : k = last := by omega
      subst hkl
      have hwin : h = RK.H (RK.win s.data.toList k sep.size).reverse % 4294967296 := by
        have := hk2.out
        rwa [show s.data.toList.drop k = RK.win s.data.toList k sep.size from (List.take_of_length_le (by simp; omega)).symm] at this
      have hno : occAt s.data.toList sep.data.toList k = false := LastIndex.occ_no_hashrev s sep k (by omega) hwin HH.out hne0
      have HL2 : Hid (Lib.lastIndex s.data.toList sep.data.toList = Lib.lastOcc s.data.toList sep.data.toList k) := HL.out.trans (Lib.lastOcc_miss _ _ k hno)
      have Hwin := hid hwin
      clear hk2 hwin hno HL
      go_loop [9, 11] (fun vh vi => ∃ (j : Nat) (g : Int), j ≤ k ∧ vi = .int .i64 ((j : Int) - 1) ∧ vh = .int .u32 g ∧ Hid (g = RK.H (RK.win s.data.toList j sep.size).reverse % 4294967296) ∧ Hid (Lib.lastIndex s.data.toList sep.data.toList = Lib.lastOcc s.data.toList sep.data.toList j)) (fun _ vi => ((RowKit.intOf vi) + 1).toNat)
      case atStart => exact ⟨k, _, Nat.le_refl _, rfl, rfl, Hwin, HL2⟩
      case round =>
        obtain ⟨j, g, hj, rfl, rfl, hg, hl⟩ := hrel
        by_cases hj1 : 1 ≤ j
        · have hsl : ∀ w, (Instr.slice 9 (.string s) (some (.int .i64 ((j : Int) - 1))) (some (.int .i64 ((j : Int) - 1 + sep.size))) none).run Try.prog w = .ok (.string (s.extract (j - 1) (j - 1 + sep.size))) w := fun w => by
            rw [run_slice_string w 9 s .i64 .i64 _ _ Try.underlying9 (by omega) (by omega) (by omega), show ((j : Int) - 1).toNat = j - 1 by omega, show ((j : Int) - 1 + sep.size).toNat = j - 1 + sep.size by omega]
          have ej : j - 1 + 1 = j := by omega
          have hg' : g = RK.H (RK.win s.data.toList (j - 1 + 1) sep.size).reverse % 4294967296 := by rw [ej]; exact hg.out
          have HR := hid (LastIndex.rollrev_step s sep.size (j - 1) h1 (by omega) hg' HP.out)
          clear hg'
          go_wp2
          · -- A HIT: 'return i'
            have hcmp : ((s.extract (j - 1) (j - 1 + sep.size)).toList == sep.toList) = true := by assumption
            have ho := occ_yes s sep (j - 1) (by omega) hcmp
            have e3 : Lib.lastOcc s.data.toList sep.data.toList j = ((j - 1 : Nat) : Int) := by
              have := Lib.lastOcc_hit _ _ (j - 1) ho
              rwa [ej] at this
            have e4 : ((j - 1 : Nat) : Int) = (j : Int) - 1 := by omega
            go_ret
            rw [hl.out, e3, e4]
            exact ⟨rfl, rfl⟩
          · -- the hashes are one, the strings part
            have hcmp : ((s.extract (j - 1) (j - 1 + sep.size)).toList == sep.toList) = false := by assumption
            have hn := occ_no s sep (j - 1) (by omega) hcmp
            have e3 : Lib.lastOcc s.data.toList sep.data.toList j = Lib.lastOcc s.data.toList sep.data.toList (j - 1) := by
              have := Lib.lastOcc_miss _ _ (j - 1) hn
              rwa [ej] at this
            have heq : (g * 16777619 + ((s[j - 1]).toNat : Int) - pw * (((s[j - 1 + sep.size]).toNat : Int) % 4294967296)) % 4294967296 = hh := by assumption
            go_round
            case rel => exact ⟨j - 1, _, by omega, by congr 1; omega, rfl, heq.symm.trans HR.out, hl.out.trans e3⟩
            case measure => simp [RowKit.intOf]; omega
          · -- the hashes part
            have hne : ¬ (g * 16777619 + ((s[j - 1]).toNat : Int) - pw * (((s[j - 1 + sep.size]).toNat : Int) % 4294967296)) % 4294967296 = hh := by assumption
            have hn := LastIndex.occ_no_hashrev s sep (j - 1) (by omega) HR.out HH.out hne
            have e3 : Lib.lastOcc s.data.toList sep.data.toList j = Lib.lastOcc s.data.toList sep.data.toList (j - 1) := by
              have := Lib.lastOcc_miss _ _ (j - 1) hn
              rwa [ej] at this
            refine ⟨⟨j - 1, _, by omega, by congr 1; omega, rfl, HR.out, hl.out.trans e3⟩, ?_⟩
            simp [RowKit.intOf]; omega
        · -- 'return -1'
          have j0 : j = 0 := by omega
          subst j0
          go_wp2
          go_ret
          rw [hl.out]
          exact ⟨rfl, rfl⟩

set_option maxHeartbeats 4000000 in
theorem lastByteStr (s : ByteArray) (c : Int) (hs : s.size < 4611686018427387904) (w : World) :
    Calls Try.prog 35 #[.string s, .int .u8 c] w fun e w' => e = .returned (.int .i64 (Lib.lastIndexByte s c)) ∧ w' = w := by
  go_enter Try.func35, Try.ntmps35
  go_wp2
  go_loop [5] (fun vi => ∃ k : Nat, k ≤ s.size ∧ vi = .int .i64 ((k : Int) - 1) ∧ Hid (Lib.lastIndexByte s c = Lib.lastIdx s c k)) (fun vi => ((RowKit.intOf vi) + 1).toNat)
  case atStart => exact ⟨s.size, Nat.le_refl _, by first | rfl | go_num | (congr 1; omega), rfl⟩
  case round =>
    obtain ⟨k, hk, rfl, hh⟩ := hrel
    go_wp2
    · -- s[i] == c: 'return i'
      have hc : (((s[k - 1]).toNat : Int) == c) = true := by assumption
      have k1 : 1 ≤ k := by omega
      have e1 : Lib.lastIdx s c k = ((k - 1 : Nat) : Int) := by
        have := Lib.lastIdx_hit s c (k - 1) (by rw [LastIndex.byteBang s (k - 1) (by omega)]; simpa using hc)
        rwa [show k - 1 + 1 = k by omega] at this
      have e2 : ((k - 1 : Nat) : Int) = (k : Int) - 1 := by omega
      go_ret
      rw [hh.out, e1, e2]
      exact ⟨rfl, rfl⟩
    · -- s[i] != c: 'i--'
      have hc : (((s[k - 1]).toNat : Int) == c) = false := by assumption
      have k1 : 1 ≤ k := by omega
      have e1 : Lib.lastIdx s c k = Lib.lastIdx s c (k - 1) := by
        have := Lib.lastIdx_miss s c (k - 1) (by rw [LastIndex.byteBang s (k - 1) (by omega)]; simpa using hc)
        rwa [show k - 1 + 1 = k by omega] at this
      refine ⟨⟨k - 1, by omega, by congr 1; omega, hh.out.trans e1⟩, ?_⟩
      simp [RowKit.intOf]; omega
    · -- i < 0: 'return -1'
      have k0 : k = 0 := by omega
      subst k0
      go_ret
      rw [hh.out]
      exact ⟨rfl, rfl⟩

set_option maxHeartbeats 800000 in
theorem strings_LastIndex_one (s sub : ByteArray) (h1 : sub.size = 1) (hs : s.size < 4611686018427387904) (w : World) :
    Calls Try.prog 25 #[.string s, .string sub] w fun e w' => e = .returned (.int .i64 (Lib.lastIndexByte s ((sub[0]'(by omega)).toNat : Int))) ∧ w' = w := by
  go_enter Try.func25, Try.ntmps25
  go_wp2_with (go_at_call 35; refine (lastByteStr _ _ hs _).mono ?_; rintro e w' ⟨rfl, rfl⟩)
  go_ret
  exact ⟨rfl, rfl⟩

set_option maxHeartbeats 800000 in
theorem strings_LastIndex_empty (s sub : ByteArray) (h0 : sub.size = 0) (w : World) :
    Calls Try.prog 25 #[.string s, .string sub] w fun e w' => e = .returned (.int .i64 s.size) ∧ w' = w := by
  go_enter Try.func25, Try.ntmps25
  go_wp2
  go_ret
  exact ⟨rfl, rfl⟩

set_option maxHeartbeats 800000 in
theorem strings_LastIndex_longer (s sub : ByteArray) (h2 : 2 ≤ sub.size) (hl : s.size < sub.size) (w : World) :
    Calls Try.prog 25 #[.string s, .string sub] w fun e w' => e = .returned (.int .i64 (-1)) ∧ w' = w := by
  go_enter Try.func25, Try.ntmps25
  go_wp2
  all_goals first | (go_ret; exact ⟨rfl, rfl⟩) | (exfalso; omega)

set_option maxHeartbeats 800000 in
theorem strings_LastIndex_whole (s sub : ByteArray) (h2 : 2 ≤ sub.size) (hl : sub.size = s.size) (w : World) :
    Calls Try.prog 25 #[.string s, .string sub] w fun e w' => e = .returned (.int .i64 (if sub = s then 0 else -1)) ∧ w' = w := by
  go_enter Try.func25, Try.ntmps25
  go_wp2
  all_goals first
    | (go_ret; exact ⟨rfl, rfl⟩)
    | (exfalso; have hq : (sub.toList == s.toList) = true := by assumption
       have hn : ¬ sub = s := by assumption
       exact hn (LastIndex.eq_of_toList (by simpa using hq)))
    | (exfalso; have hq : (sub.toList == s.toList) = false := by assumption
       have he : sub = s := by assumption
       subst he; simp at hq)
    | (exfalso; omega)

set_option maxHeartbeats 800000 in
theorem strings_LastIndex_hash (s sub : ByteArray) (h2 : 2 ≤ sub.size) (hl : sub.size < s.size) (hs : s.size < 4611686018427387904) (w : World) :
    Calls Try.prog 25 #[.string s, .string sub] w fun e w' => e = .returned (.int .i64 (Lib.lastIndex s.data.toList sub.data.toList)) ∧ w' = w := by
  go_enter Try.func25, Try.ntmps25
  go_wp2_with (go_at_call 36; refine (lastRK _ _ (by omega) (by omega) hs _).mono ?_; rintro e w' ⟨rfl, rfl⟩)
  all_goals first | (go_ret; exact ⟨rfl, rfl⟩) | (exfalso; omega)

theorem strings_LastIndex (s sub : ByteArray) (hs : s.size < 4611686018427387904) (w : World) :
    Calls Try.prog 25 #[.string s, .string sub] w fun e w' => e = .returned (.int .i64 (Lib.lastIndex s.data.toList sub.data.toList)) ∧ w' = w := by
  by_cases h0 : sub.size = 0
  · have e : sub.data.toList = [] := List.eq_nil_of_length_eq_zero (by simpa using h0)
    rw [e, LastIndex.nil, show ((s.data.toList.length : Nat) : Int) = (s.size : Int) by simp]
    exact strings_LastIndex_empty s sub h0 w
  by_cases h1 : sub.size = 1
  · rw [← LastIndex.one s sub h1]
    exact strings_LastIndex_one s sub h1 (by omega) w
  by_cases hw : sub.size = s.size
  · rw [← LastIndex.whole s sub hw]
    exact strings_LastIndex_whole s sub (by omega) hw w
  by_cases hg : s.size < sub.size
  · rw [LastIndex.longer _ _ (by simpa using hg)]
    exact strings_LastIndex_longer s sub (by omega) hg w
  exact strings_LastIndex_hash s sub (by omega) (by omega) hs w

end Go.Proofs.Ytocegdangdcicaa
