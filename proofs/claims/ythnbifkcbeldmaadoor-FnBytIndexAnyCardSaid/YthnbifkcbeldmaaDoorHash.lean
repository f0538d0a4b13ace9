/- Contracts of the hashes and searches of Rabin and Karp and of LastIndex (strings): each returns what the plain function of the library says, and leaves the world as it was. Condition: the texts are shorter than 2^62 bytes. -/
import Derived.Test.YthnbifkcbeldmaaDoorRows
import Derived.WalkKit
import Derived.WalkSpells
import Derived.WalkLawsBesides
import Derived.Lib.Walk
import Derived.Lib.Strings
import Derived.Lib.Slices
import Derived.Lib.Bytealg
import Derived.BigCall
import Derived.BigGuard
import Derived.Deep.Draws
import Derived.Laws.Strings3
import Derived.Lib.RabinKarpLaws
import Derived.Lib.LastIndexLaws
import Derived.Shelf.Strings.LastIndexAll
namespace Go.Proofs.YthnbifkcbeldmaaDoor
open Go.Shelf Go.RowKit Go.Lib

set_option maxHeartbeats 1600000 in
theorem hashStr (sep : ByteArray) (hs : sep.size < 4611686018427387904) (w : World) :
    Calls Tryd.prog 148 #[.string sep] w fun e w' => e = .returned (.tuple #[.int .u32 (RK.H sep.data.toList % 4294967296), .int .u32 (16777619 ^ sep.size % 4294967296)]) ∧ w' = w := by
  go_enter Tryd.func148, Tryd.ntmps148
  go_wp2
  go_loop [4, 5] (fun vh vi => ∃ (k : Nat) (h : Int), k ≤ sep.size ∧ vi = .int .i64 k ∧ vh = .int .u32 h ∧ Hid (h = RK.H (sep.data.toList.take k) % 4294967296)) (fun _ vi => sep.size - (RowKit.intOf vi).toNat)
  case atStart => exact ⟨0, 0, Nat.zero_le _, rfl, rfl, rfl⟩
  case round =>
    obtain ⟨k, h, hk, rfl, rfl, hh⟩ := hrel
    go_wp2
    · have hlt : k < sep.size := by assumption
      go_round
      case rel => exact ⟨k + 1, _, by omega, by go_num, rfl, hash_step sep k hlt hh.out⟩
      case measure => simp [RowKit.intOf]; omega
    · have hk2 : k = sep.size := by omega
      subst hk2
      go_loop [6, 7, 8] (fun vp vq vi => ∃ (i : Nat) (pw sq : Int), vi = .int .i64 i ∧ vp = .int .u32 pw ∧ vq = .int .u32 sq ∧ 0 ≤ pw ∧ pw < 4294967296 ∧ i ≤ sep.size ∧ Hid (RK.PowInv sep.size i pw sq)) (fun _ _ vi => (RowKit.intOf vi).toNat)
      case atStart => exact ⟨sep.size, 1, 16777619, rfl, rfl, rfl, by omega, by omega, Nat.le_refl _, RK.pow_start _⟩
      case round =>
        obtain ⟨i, pw, sq, rfl, rfl, rfl, p0, p1, hi, hinv⟩ := hrel
        have ea := and_one i (by omega)
        go_wp2
        · -- i is odd: 'pow *= sq'
          have ht : ((i : Int) % 2 != 0) = true := by assumption
          have ho : i % 2 = 1 := by simp at ht; omega
          go_round
          case rel => exact ⟨i / 2, _, _, by first | go_num | (congr 1; omega), rfl, rfl, by omega, by omega, by omega, RK.pow_odd hinv.out ho⟩
          case measure => simp [RowKit.intOf]; omega
        · have ht : ((i : Int) % 2 != 0) = false := by assumption
          have he : i % 2 = 0 := by simp at ht; omega
          go_round
          case rel => exact ⟨i / 2, _, _, by first | go_num | (congr 1; omega), rfl, rfl, p0, p1, by omega, RK.pow_even hinv.out he⟩
          case measure => simp [RowKit.intOf]; omega
        · have hi0 : i = 0 := by omega
          subst hi0
          have e1 : h = RK.H sep.data.toList % 4294967296 := by
            have := hh.out
            rwa [List.take_of_length_le (by simp)] at this
          have e2 := RK.pow_end hinv.out p0 p1
          go_ret2
          rw [← e1, ← e2]
          exact ⟨rfl, rfl⟩

set_option maxHeartbeats 3200000 in
theorem indexRK (s sep : ByteArray) (h1 : 1 ≤ sep.size) (h2 : sep.size ≤ s.size) (hs : s.size < 4611686018427387904) (w : World) :
    Calls Tryd.prog 141 #[.string s, .string sep] w fun e w' => e = .returned (.int .i64 (Lib.index s.data.toList sep.data.toList)) ∧ w' = w := by
  obtain ⟨hh, Hh⟩ : ∃ hh : Int, hh = RK.H sep.data.toList % 4294967296 := ⟨_, rfl⟩
  obtain ⟨pw, Hp⟩ : ∃ pw : Int, pw = 16777619 ^ sep.size % 4294967296 := ⟨_, rfl⟩
  have hc : ∀ w, Calls Tryd.prog 148 #[.string sep] w fun e w' => e = .returned (.tuple #[.int .u32 hh, .int .u32 pw]) ∧ w' = w := fun w => by rw [Hh, Hp]; exact hashStr sep (by omega) w
  have HH := hid Hh
  have HP := hid Hp
  have hsl0 : Hid (s.data.toList.length = s.size) := by show _ = _; simp
  have Hpl : Hid (sep.data.toList.length = sep.size) := by show _ = _; simp
  clear Hh Hp
  go_enter Tryd.func141, Tryd.ntmps141
  go_wp2_with (go_at_call 148; refine (hc _).mono ?_; rintro e w' ⟨rfl, rfl⟩)
  go_loop [8, 9] (fun vh vi => ∃ (k : Nat) (h : Int), k ≤ sep.size ∧ vi = .int .i64 k ∧ vh = .int .u32 h ∧ Hid (h = RK.H (s.data.toList.take k) % 4294967296)) (fun _ vi => sep.size - (RowKit.intOf vi).toNat)
  case atStart => exact ⟨0, 0, Nat.zero_le _, rfl, rfl, rfl⟩
  case round =>
    obtain ⟨k, h, hk, rfl, rfl, hk2⟩ := hrel
    go_wp2
    · have hlt : k < sep.size := by assumption
      go_round
      case rel => exact ⟨k + 1, _, by omega, by go_num, rfl, hash_step s k (by omega) hk2.out⟩
      case measure => simp [RowKit.intOf]; omega
    · -- the first window is the needle: 'return 0'
      have hcmp : ((s.extract 0 sep.size).toList == sep.toList) = true := by assumption
      go_ret
      have ho := occ_yes s sep 0 (by omega) (by rw [Nat.zero_add]; exact hcmp)
      rw [index_hit (NoOcc.zero _ _) (Nat.zero_le _) ho]
      exact ⟨rfl, rfl⟩
    · -- the hashes are one, the strings part
      have hcmp : ((s.extract 0 sep.size).toList == sep.toList) = false := by assumption
      have ehh : h = hh := by assumption
      subst ehh
      have hkn : k = sep.size := by omega
      subst hkn      -- (left lying, the walk would take it for a rule and write k out in the frame: the round's end would find a frame that is not, to the letter, the loop's)
      have hno : NoOcc s.data.toList sep.data.toList 1 := (NoOcc.zero _ _).succ (occ_no s sep 0 (by omega) (by rw [Nat.zero_add]; exact hcmp))
      have hwin : h = RK.H (RK.win s.data.toList 0 sep.size) % 4294967296 := hk2.out
      have Hno := hid hno
      have Hwin := hid hwin
      clear hcmp hk2 hno hwin
      -- THE SEARCH: 'for i := n; i < len(s); {'
      go_loop [8, 10] (fun vh vi => ∃ (i : Nat) (g : Int), sep.size ≤ i ∧ i ≤ s.size ∧ vi = .int .i64 i ∧ vh = .int .u32 g ∧ Hid (g = RK.H (RK.win s.data.toList (i - sep.size) sep.size) % 4294967296) ∧ Hid (NoOcc s.data.toList sep.data.toList (i - sep.size + 1)))
        (fun _ vi => s.size - (RowKit.intOf vi).toNat)
      case atStart => exact ⟨sep.size, _, Nat.le_refl _, h2, rfl, rfl, by rw [Nat.sub_self]; exact Hwin, by rw [Nat.sub_self]; exact Hno⟩
      case round =>
        obtain ⟨i, g, hi1, hi2, rfl, rfl, hg, hn⟩ := hrel
        by_cases hlt : i < s.size
        · -- THE PIECE 's[i-n:i]' (i is one further by then): ITS EQUATION, for the walk to take (the rule's three premises are not found by the walk's simp, though they lie there to the letter)
          have hsl : ∀ w, (Instr.slice 9 (.string s) (some (.int .i64 ((i : Int) + 1 - sep.size))) (some (.int .i64 ((i : Int) + 1))) none).run Tryd.prog w = .ok (.string (s.extract (i + 1 - sep.size) (i + 1))) w := fun w => by
            rw [run_slice_string w 9 s .i64 .i64 _ _ Tryd.underlying9 (by omega) (by omega) (by omega), show ((i : Int) + 1 - sep.size).toNat = i + 1 - sep.size by omega, show ((i : Int) + 1).toNat = i + 1 by omega]
          -- THE WINDOW HAS MOVED ON BY ONE
          have HR := hid (roll_step s sep.size i h1 hi1 hlt hg.out HP.out)
          have ej : i - sep.size + 1 = i + 1 - sep.size := by omega
          have ee : i + 1 - sep.size + sep.size = i + 1 := by omega
          go_wp2
          · -- A HIT: 'return i - n'
            have hcmp : ((s.extract (i + 1 - sep.size) (i + 1)).toList == sep.toList) = true := by assumption
            go_ret
            have ho := occ_yes s sep (i + 1 - sep.size) (by omega) (by rw [ee]; exact hcmp)
            rw [index_hit (i := i + 1 - sep.size) (by rw [← ej]; exact hn.out) (by rw [hsl0.out]; omega) ho]
            refine ⟨?_, rfl⟩
            show Ending.returned (Value.int .i64 ((i : Int) + 1 - sep.size)) = _
            congr 2
            omega
          · -- the hashes are one, the strings part
            have hcmp : ((s.extract (i + 1 - sep.size) (i + 1)).toList == sep.toList) = false := by assumption
            have hn' : NoOcc s.data.toList sep.data.toList (i + 1 - sep.size + 1) := by
              rw [← ej]; exact hn.out.succ (by rw [ej]; exact occ_no s sep (i + 1 - sep.size) (by omega) (by rw [ee]; exact hcmp))
            have heq : (g * 16777619 + (s[i].toNat : Int) - pw * ((s[i - sep.size].toNat : Int) % 4294967296)) % 4294967296 = h := by assumption      -- (by it the walk has written the needle's hash into the slot)
            go_round
            case rel => exact ⟨i + 1, _, by omega, by omega, by go_num, rfl, heq.symm.trans HR.out, hn'⟩
            case measure => simp [RowKit.intOf]; omega
          · -- the hashes part
            have hne : ¬ (g * 16777619 + (s[i].toNat : Int) - pw * ((s[i - sep.size].toNat : Int) % 4294967296)) % 4294967296 = h := by assumption
            have hn' : NoOcc s.data.toList sep.data.toList (i + 1 - sep.size + 1) := by
              rw [← ej]; exact hn.out.succ (by rw [ej]; exact occ_no_hash s sep (i + 1 - sep.size) (by omega) HR.out HH.out hne)
            go_round
            case rel => exact ⟨i + 1, _, by omega, by omega, by go_num, rfl, HR.out, hn'⟩
            case measure => simp [RowKit.intOf]; omega
        · go_wp2
          go_ret
          have hpl := Hpl.out
          rw [index_past (fun e => by rw [e] at hpl; simp at hpl; omega) hn.out (by rw [hsl0.out, hpl]; omega)]
          exact ⟨rfl, rfl⟩
    · -- the hashes part
      have hne : ¬ h = hh := by assumption
      have hkn : k = sep.size := by omega
      subst hkn
      have hwin : h = RK.H (RK.win s.data.toList 0 sep.size) % 4294967296 := hk2.out
      have hno : NoOcc s.data.toList sep.data.toList 1 := (NoOcc.zero _ _).succ (occ_no_hash s sep 0 (by omega) hwin HH.out hne)
      have Hno := hid hno
      have Hwin := hid hwin
      clear hk2 hno hwin
      -- THE SEARCH: 'for i := n; i < len(s); {'
      go_loop [8, 10] (fun vh vi => ∃ (i : Nat) (g : Int), sep.size ≤ i ∧ i ≤ s.size ∧ vi = .int .i64 i ∧ vh = .int .u32 g ∧ Hid (g = RK.H (RK.win s.data.toList (i - sep.size) sep.size) % 4294967296) ∧ Hid (NoOcc s.data.toList sep.data.toList (i - sep.size + 1)))
        (fun _ vi => s.size - (RowKit.intOf vi).toNat)
      case atStart => exact ⟨sep.size, _, Nat.le_refl _, h2, rfl, rfl, by rw [Nat.sub_self]; exact Hwin, by rw [Nat.sub_self]; exact Hno⟩
      case round =>
        obtain ⟨i, g, hi1, hi2, rfl, rfl, hg, hn⟩ := hrel
        by_cases hlt : i < s.size
        · -- THE PIECE 's[i-n:i]' (i is one further by then): ITS EQUATION, for the walk to take (the rule's three premises are not found by the walk's simp, though they lie there to the letter)
          have hsl : ∀ w, (Instr.slice 9 (.string s) (some (.int .i64 ((i : Int) + 1 - sep.size))) (some (.int .i64 ((i : Int) + 1))) none).run Tryd.prog w = .ok (.string (s.extract (i + 1 - sep.size) (i + 1))) w := fun w => by
            rw [run_slice_string w 9 s .i64 .i64 _ _ Tryd.underlying9 (by omega) (by omega) (by omega), show ((i : Int) + 1 - sep.size).toNat = i + 1 - sep.size by omega, show ((i : Int) + 1).toNat = i + 1 by omega]
          -- THE WINDOW HAS MOVED ON BY ONE
          have HR := hid (roll_step s sep.size i h1 hi1 hlt hg.out HP.out)
          have ej : i - sep.size + 1 = i + 1 - sep.size := by omega
          have ee : i + 1 - sep.size + sep.size = i + 1 := by omega
          go_wp2
          · -- A HIT: 'return i - n'
            have hcmp : ((s.extract (i + 1 - sep.size) (i + 1)).toList == sep.toList) = true := by assumption
            go_ret
            have ho := occ_yes s sep (i + 1 - sep.size) (by omega) (by rw [ee]; exact hcmp)
            rw [index_hit (i := i + 1 - sep.size) (by rw [← ej]; exact hn.out) (by rw [hsl0.out]; omega) ho]
            refine ⟨?_, rfl⟩
            show Ending.returned (Value.int .i64 ((i : Int) + 1 - sep.size)) = _
            congr 2
            omega
          · -- the hashes are one, the strings part
            have hcmp : ((s.extract (i + 1 - sep.size) (i + 1)).toList == sep.toList) = false := by assumption
            have hn' : NoOcc s.data.toList sep.data.toList (i + 1 - sep.size + 1) := by
              rw [← ej]; exact hn.out.succ (by rw [ej]; exact occ_no s sep (i + 1 - sep.size) (by omega) (by rw [ee]; exact hcmp))
            have heq : (g * 16777619 + (s[i].toNat : Int) - pw * ((s[i - sep.size].toNat : Int) % 4294967296)) % 4294967296 = hh := by assumption      -- (by it the walk has written the needle's hash into the slot)
            go_round
            case rel => exact ⟨i + 1, _, by omega, by omega, by go_num, rfl, heq.symm.trans HR.out, hn'⟩
            case measure => simp [RowKit.intOf]; omega
          · -- the hashes part
            have hne : ¬ (g * 16777619 + (s[i].toNat : Int) - pw * ((s[i - sep.size].toNat : Int) % 4294967296)) % 4294967296 = hh := by assumption
            have hn' : NoOcc s.data.toList sep.data.toList (i + 1 - sep.size + 1) := by
              rw [← ej]; exact hn.out.succ (by rw [ej]; exact occ_no_hash s sep (i + 1 - sep.size) (by omega) HR.out HH.out hne)
            go_round
            case rel => exact ⟨i + 1, _, by omega, by omega, by go_num, rfl, HR.out, hn'⟩
            case measure => simp [RowKit.intOf]; omega
        · go_wp2
          go_ret
          have hpl := Hpl.out
          rw [index_past (fun e => by rw [e] at hpl; simp at hpl; omega) hn.out (by rw [hsl0.out, hpl]; omega)]
          exact ⟨rfl, rfl⟩

end Go.Proofs.YthnbifkcbeldmaaDoor
