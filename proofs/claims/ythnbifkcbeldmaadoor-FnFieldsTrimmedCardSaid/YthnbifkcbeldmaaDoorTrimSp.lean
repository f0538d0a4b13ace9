/- strings.TrimFunc at unicode.IsSpace and strings.TrimSpace, at every text. (The library's own walks, turned to this program by wip/tools/unshelf2.py.) -/
import Derived.Test.YthnbifkcbeldmaaDoorFldSeq
import Derived.Shelf.Strings.TrimSpaceAny
namespace Go.Proofs.YthnbifkcbeldmaaDoor
open Go Go.Shelf Go.RowKit Go.Lib Go.Proofs
set_option linter.unusedVariables false
set_option maxHeartbeats 4000000 in
set_option maxRecDepth 1000000 in
theorem g_indexFunc_space (s : ByteArray) (w : World) (hW : Lib.WhiteTab 1 w) :
    Calls Tryd.prog 146 #[.string s, .func (.func 88) #[] #[], .bool false] w fun e w' => e = .returned (.int .i64 (Lib.leftIdx s)) ∧ Below w.heap.size w w' := by
  go_enter Tryd.func146, Tryd.ntmps146
  go_wp2
  go_loopg [] s.size (fun g wx => ∃ pos : Nat, wx.heap[w.heap.size]? = some (.stringIter s pos) ∧ Below w.heap.size w wx ∧ Lib.leftFrom s g pos = Lib.leftIdx s ∧ s.size ≤ pos + g)
  case atStart => exact ⟨0, World.iter_heap w s 0, (Below.refl _ w).alloc (Nat.le_refl _) _, rfl, by omega⟩
  case round =>
    obtain ⟨pos, hit, hbw, hleft, hfu⟩ := hrel
    have hsz : w.heap.size < wr.heap.size := (Array.getElem?_eq_some_iff.1 hit).1
    by_cases hp : pos < s.size
    · -- a rune is at hand
      obtain ⟨g, rfl⟩ : ∃ g, gk = g + 1 := ⟨gk - 1, by omega⟩
      have hnx : ∀ ty, (Instr.next (.pointer (some ⟨w.heap.size, 0, none⟩)) true ty).run Tryd.prog wr = _ := fun ty => Lib.run_next_any_at wr w.heap.size s pos ty hit hp
      have hwd := Lib.width_pos s pos
      have hr1 := Lib.rune_le s pos
      obtain ⟨R, hR⟩ : ∃ R, (Utf8.decode s pos).1 = R := ⟨_, rfl⟩
      obtain ⟨K, hK⟩ : ∃ K, (Utf8.decode s pos).2 = K := ⟨_, rfl⟩
      simp only [Lib.leftFrom, hp, if_true, hR, hK] at hleft
      rw [hR, hK] at hnx
      rw [hR] at hr1
      rw [hK] at hwd
      have hit2 := Lib.iterAt_heap wr w.heap.size s pos (pos + K) hit
      have hbw2 := Lib.below_iterAt hbw (k := w.heap.size) (Nat.le_refl _) s (pos + K)
      obtain ⟨W, hWd⟩ : ∃ W, wr.iterAt w.heap.size s (pos + K) = W := ⟨_, rfl⟩
      rw [hWd] at hnx hit2 hbw2
      have cS := Tryd.unicode_IsSpace_any (R : Int) W (by omega) (by omega) (WhiteTab_below hW hbw2)
      rw [Lib.isSpaceZ_nat] at cS
      have hWs : w.heap.size < W.heap.size := (Array.getElem?_eq_some_iff.1 hit2).1
      cases hsp : Lib.isSpaceR R with
      | true =>
        rw [hsp] at cS
        simp only [hsp, if_true] at hleft
        go_wp2_with (go_at_call 88; go_fit cS; rintro e W' ⟨rfl, hb⟩)
        go_roundg g
        case measure => omega
        case rel => exact ⟨pos + K, (hb.block w.heap.size hWs).trans hit2, hbw2.trans (hb.mono (by omega)), hleft, by omega⟩
      | false =>
        rw [hsp] at cS
        simp only [hsp, Bool.false_eq_true, if_false] at hleft
        go_wp2_with (go_at_call 88; go_fit cS; rintro e W' ⟨rfl, hb⟩)
        go_ret
        exact ⟨by rw [← hleft] <;> rfl, hbw2.trans (hb.mono (by omega))⟩
    · -- the string is through: -1
      have hnx : ∀ ty, (Instr.next (.pointer (some ⟨w.heap.size, 0, none⟩)) true ty).run Tryd.prog wr = _ := fun ty => Lib.run_next_end_at wr w.heap.size s pos ty hit hp
      rw [Lib.leftFrom_end s gk pos hp] at hleft
      go_wp2
      go_ret
      exact ⟨by rw [← hleft] <;> rfl, hbw⟩
set_option maxHeartbeats 4000000 in
set_option maxRecDepth 1000000 in
theorem g_lastIndexFunc_space (s : ByteArray) (w : World) (hs : s.size ≤ 9223372036854775807) (hT : Lib.Utf8Tabs 2 3 w) (hW : Lib.WhiteTab 1 w) :
    Calls Tryd.prog 134 #[.string s, .func (.func 88) #[] #[], .bool false] w fun e w' => e = .returned (.int .i64 (Lib.rightIdx s)) ∧ Below w.heap.size w w' := by
  go_enter Tryd.func134, Tryd.ntmps134
  go_wp2
  go_loopg [7] s.size (fun g s7 wx => ∃ i : Nat, s7 = .int .i64 i ∧ i ≤ s.size ∧ Below w.heap.size w wx ∧ Lib.rightFrom s g i = Lib.rightIdx s ∧ i ≤ g)
  case atStart => exact ⟨s.size, rfl, Nat.le_refl _, Below.refl _ _, rfl, Nat.le_refl _⟩
  case round =>
    obtain ⟨i, rfl, hi, hbw, hright, hfu⟩ := hrel
    by_cases hp : 0 < i
    · obtain ⟨g, rfl⟩ : ∃ g, gk = g + 1 := ⟨gk - 1, by omega⟩
      have hpz : (0 : Int) < (i : Int) := by omega
      have hxd : (s.extract 0 i).data.toList = s.data.toList.take i := by rw [Lib.extract_data]; simp
      have hxs : (s.extract 0 i).size = i := by rw [Lib.size_eq, hxd, List.length_take, ← Lib.size_eq]; omega
      have cL := Tryd.utf8_DecodeLastRuneInString (s.extract 0 i) wr (by omega) (Utf8Tabs_below hT hbw)
      rw [hxd] at cL
      have hk1 := Lib.decodeLastL_width (s.data.toList.take i) (by rw [List.length_take, ← Lib.size_eq]; omega)
      rw [List.length_take, ← Lib.size_eq, Nat.min_eq_left hi] at hk1
      have hr1 := Lib.decodeLastL_rune (s.data.toList.take i)
      obtain ⟨R, hR⟩ : ∃ R, (Lib.decodeLastL (s.data.toList.take i)).1 = R := ⟨_, rfl⟩
      obtain ⟨K, hK⟩ : ∃ K, (Lib.decodeLastL (s.data.toList.take i)).2 = K := ⟨_, rfl⟩
      simp only [Lib.rightFrom, hp, if_true, hR, hK] at hright
      rw [hR, hK] at cL
      rw [hK] at hk1
      rw [hR] at hr1
      have hsl : ∀ W, (Instr.slice 9 (.string s) (some (.int .i64 0)) (some (.int .i64 (i : Int))) none).run Tryd.prog W = .ok (.string (s.extract 0 i)) W := fun W => by
        rw [run_slice_string W 9 s .i64 .i64 0 i Tryd.underlying9 (by omega) (by omega) (by omega)]
        rfl
      go_wp2_with (go_at_call 79; go_fit cL; rintro e W ⟨rfl, hb1⟩)
      have hbW : Below w.heap.size w W := hbw.trans (hb1.mono hbw.size)
      have cS := Tryd.unicode_IsSpace_any (R : Int) W (by omega) (by omega) (WhiteTab_below hW hbW)
      rw [Lib.isSpaceZ_nat] at cS
      cases hsp : Lib.isSpaceR R with
      | true =>
        rw [hsp] at cS
        simp only [hsp, if_true] at hright
        go_wp2_with (go_at_call 88; go_fit cS; rintro e W' ⟨rfl, hb⟩)
        go_roundg g
        case measure => omega
        case rel => exact ⟨i - K, by go_num, by omega, hbW.trans (hb.mono hbW.size), hright, by omega⟩
      | false =>
        rw [hsp] at cS
        simp only [hsp, Bool.false_eq_true, if_false] at hright
        go_wp2_with (go_at_call 88; go_fit cS; rintro e W' ⟨rfl, hb⟩)
        go_ret
        refine ⟨?_, hbW.trans (hb.mono hbW.size)⟩
        rw [← hright]
        show Ending.returned (Value.int .i64 _) = _
        refine congrArg _ (congrArg _ ?_)
        omega
    · obtain rfl : i = 0 := by omega
      rw [Lib.rightFrom_zero] at hright
      go_wp2
      go_ret
      exact ⟨by rw [← hright] <;> rfl, hbw⟩
set_option maxHeartbeats 4000000 in
set_option maxRecDepth 1000000 in
theorem g_TrimLeftFunc_space (s : ByteArray) (w : World) (hW : Lib.WhiteTab 1 w) :
    Calls Tryd.prog 133 #[.string s, .func (.func 88) #[] #[]] w fun e w' => e = .returned (.string (Lib.goTrimLeft s)) ∧ Below w.heap.size w w' := by
  have cI := g_indexFunc_space s w hW
  have hrg := Lib.leftFrom_range s s.size 0
  unfold Lib.goTrimLeft
  change Lib.leftIdx s = -1 ∨ _ at hrg
  obtain ⟨I, hI⟩ : ∃ I, Lib.leftIdx s = I := ⟨_, rfl⟩
  rw [show Lib.leftFrom s s.size 0 = I from hI] at hrg
  rw [hI] at cI hrg ⊢
  rcases hrg with rfl | ⟨h0, h1⟩
  · go_enter Tryd.func133, Tryd.ntmps133
    go_wp2_with (go_at_call 146; go_fit cI; rintro e w' ⟨rfl, hb⟩)
    go_ret
    exact ⟨rfl, hb⟩
  · have hne : ¬ I = -1 := by omega
    rw [if_neg hne]
    go_enter Tryd.func133, Tryd.ntmps133
    go_wp2_with (go_at_call 146; go_fit cI; rintro e w' ⟨rfl, hb⟩)
    all_goals (go_ret; exact ⟨rfl, hb⟩)
set_option maxHeartbeats 4000000 in
set_option maxRecDepth 1000000 in
theorem g_TrimRightFunc_space (s : ByteArray) (w : World) (hs : s.size ≤ 9223372036854775807) (hT : Lib.Utf8Tabs 2 3 w) (hW : Lib.WhiteTab 1 w) :
    Calls Tryd.prog 102 #[.string s, .func (.func 88) #[] #[]] w fun e w' => e = .returned (.string (Lib.goTrimRight s)) ∧ Below w.heap.size w w' := by
  have cI := g_lastIndexFunc_space s w hs hT hW
  have hrg := Lib.rightFrom_range s s.size s.size
  unfold Lib.goTrimRight Lib.rightEnd
  obtain ⟨I, hI⟩ : ∃ I, Lib.rightIdx s = I := ⟨_, rfl⟩
  rw [show Lib.rightFrom s s.size s.size = I from hI] at hrg
  rw [hI] at cI ⊢
  rcases hrg with rfl | ⟨h0, h1⟩
  · -- all is white space: 'i++': s[0:0]
    rw [if_neg (by omega)]
    go_enter Tryd.func102, Tryd.ntmps102
    go_wp2_with (go_at_call 134; go_fit cI; rintro e w' ⟨rfl, hb⟩)
    all_goals (go_ret; exact ⟨by rw [Lib.extract_eq]; rfl, hb⟩)
  · rw [if_pos h0]
    obtain ⟨i, rfl⟩ := Int.eq_ofNat_of_zero_le h0
    simp only [Int.toNat_natCast]
    have hw1 := Lib.decodeGo_le_size (s.extract i s.size)
    have hxs : (s.extract i s.size).size = s.size - i := by rw [Lib.size_eq, Lib.extract_data, List.length_take, List.length_drop, ← Lib.size_eq]; omega
    rw [hxs] at hw1
    change (Lib.decodeGoB (s.extract i s.size)).2 ≤ _ at hw1
    obtain ⟨K, hK⟩ : ∃ K, (Lib.decodeGoB (s.extract i s.size)).2 = K := ⟨_, rfl⟩
    rw [hK] at hw1 ⊢
    go_enter Tryd.func102, Tryd.ntmps102
    go_wp2_with (go_at_call 134; go_fit cI; rintro e W ⟨rfl, hb⟩)
    have cD := Tryd.utf8_DecodeRuneInString (s.extract i s.size) W (Utf8Tabs_below hT hb)
    change Calls Tryd.prog _ _ _ (fun e w' => e = .returned (.tuple #[.int .i32 (Lib.decodeGoB (s.extract i s.size)).1, .int .i64 (Lib.decodeGoB (s.extract i s.size)).2]) ∧ _) at cD
    rw [hK] at cD
    go_wp2_with (first
      | (go_at_call 84; go_fit cD; rintro e W' ⟨rfl, hb2⟩)
      | (rw [run_slice_string (h := t9)] <;> first | omega | skip))
    all_goals (go_ret; refine ⟨?_, hb.trans (hb2.mono hb.size)⟩)
    show Ending.returned (Value.string (s.extract 0 ((i : Int) + (K : Int)).toNat)) = _
    rw [show ((i : Int) + (K : Int)).toNat = i + K by omega]
set_option maxHeartbeats 4000000 in
set_option maxRecDepth 1000000 in
theorem g_TrimFunc_space (s : ByteArray) (w : World) (hs : s.size ≤ 9223372036854775807) (hT : Lib.Utf8Tabs 2 3 w) (hW : Lib.WhiteTab 1 w) :
    Calls Tryd.prog 101 #[.string s, .func (.func 88) #[] #[]] w fun e w' => e = .returned (.string (Lib.goTrim s)) ∧ Below w.heap.size w w' := by
  have cL := g_TrimLeftFunc_space s w hW
  have hsz := goTrimLeft_size s
  unfold Lib.goTrim
  obtain ⟨t, ht⟩ : ∃ t, Lib.goTrimLeft s = t := ⟨_, rfl⟩
  rw [ht] at cL hsz ⊢
  go_enter Tryd.func101, Tryd.ntmps101
  go_wp2_with (go_at_call 133; go_fit cL; rintro e W ⟨rfl, hb⟩)
  have cR := g_TrimRightFunc_space t W (by omega) (Utf8Tabs_below hT hb) (WhiteTab_below hW hb)
  go_wp2_with (go_at_call 102; go_fit cR; rintro e W' ⟨rfl, hb2⟩)
  go_ret
  exact ⟨rfl, hb.trans (hb2.mono hb.size)⟩
set_option maxHeartbeats 4000000 in
set_option maxRecDepth 1000000 in
theorem g_TrimSpace_any (s : ByteArray) (w : World) (hs : s.size ≤ 9223372036854775807)
    (hSp : SpTab 0 w) (hU8 : Lib.Utf8Tabs 2 3 w) (hWS : Lib.WhiteTab 1 w) :
    Calls Tryd.prog 61 #[.string s] w fun e w' => e = .returned (.string ⟨(Lib.trimSpaceD s.data.toList).toArray⟩) ∧ Below w.heap.size w w' := by
  have hbW : Below w.heap.size w (Lib.bytesWorld w 5 s) := ⟨rfl, rfl, rfl, by rw [Lib.bytesWorld_size]; omega, fun j hj => Lib.bytesWorld_at_old w 5 s j hj⟩
  have hT1 := Utf8Tabs_below hU8 hbW
  have hWh := WhiteTab_below hWS hbW
  have hT : ∀ c : Nat, c < 256 → (Lib.bytesWorld w 5 s).cell? ⟨0, c, none⟩ = some (.int .u8 (if Lib.isSp (UInt8.ofNat c) then 1 else 0)) := fun c hc => by
    rw [hbW.cell (p := ⟨0, c, none⟩) (World.block_lt_of_cell? _ _ (hSp c hc))]
    exact hSp c hc
  have hB : ∀ t, t < s.size → (Lib.bytesWorld w 5 s).cell? ⟨w.heap.size, t, none⟩ = some (.int .u8 (s.data.toList.getD t 0).toNat) := fun t ht => Lib.bytesWorld_cell w 5 s t ht
  clear hSp hU8 hWS
  go_enter Tryd.func61, Tryd.ntmps61
  go_wp2
  rw [Lib.run_convert_string_bytes w 9 24 5 s (u := .string) Tryd.underlying9 Tryd.underlying24 Tryd.underlying5]
  simp only [Result.andThen]
  rw [Oper.upon_value]
  -- THE WORLD BEHIND '[]byte(s)' UNDER A NAME
  obtain ⟨W1, hW1⟩ : ∃ W1, W1 = Lib.bytesWorld w 5 s := ⟨_, rfl⟩
  rw [← hW1] at hT hB hbW hT1 hWh ⊢
  have HW := Lib.hid hW1
  have HT := Lib.hid hT
  have HB := Lib.hid hB
  clear hW1 hT hB
  go_wp2
  go_loop [10, 0] (fun i s0 => s0 = .string s ∧ ∃ k : Nat, k ≤ s.size ∧ i = .int .i64 k ∧ Hid (∀ (j : Nat) b, j < k → s.data.toList[j]? = some b → Lib.isSp b = true)) (fun i _ => s.size - (intOf i).toNat)
  case atStart => exact ⟨rfl, 0, Nat.zero_le _, rfl, fun j b hj => absurd hj (Nat.not_lt_zero _)⟩
  case round =>
    obtain ⟨rfl, k, hk, rfl, hsp⟩ := hrel
    by_cases hkn : k < s.size
    · obtain ⟨x, hx⟩ : ∃ x, x = s.data.toList.getD k 0 := ⟨_, rfl⟩
      have hxk : s.data.toList[k]? = some x := by
        rw [hx, List.getD, List.getElem?_eq_getElem (by rw [← Lib.size_eq]; exact hkn)]
        rfl
      have hc1 : W1.cell? ⟨w.heap.size, k, none⟩ = some (.int .u8 x.toNat) := by rw [hx]; exact HB.out k hkn
      by_cases h128 : (128 : Int) ≤ (x.toNat : Int)
      case pos =>
        -- ████ A BYTE FROM 128 ON, FROM THE FRONT: 'return TrimFunc(s[lo:], unicode.IsSpace)'
        clear hx hxk
        have hxs : (s.extract k s.size).size ≤ 9223372036854775807 := by
          rw [Lib.size_eq, Lib.extract_data, List.length_take, List.length_drop, ← Lib.size_eq]; omega
        have cF := g_TrimFunc_space (s.extract k s.size) W1 hxs hT1 hWh
        have hslA : ∀ w, (Instr.slice 9 (.string s) (some (.int .i64 (k : Int))) none none).run Tryd.prog w = .ok (.string (s.extract k s.size)) w := fun w => by
          rw [run_slice_string_from_if w 9 s .i64 _ Tryd.underlying9, if_pos ⟨by omega, by omega⟩]
          rfl
        go_wp2_with (go_at_call 101; go_fit cF; rintro e W' ⟨rfl, hb⟩)
        go_ret
        refine ⟨?_, hbW.trans (hb.mono hbW.size)⟩
        show Ending.returned (Value.string (Lib.goTrim (s.extract k s.size))) = _
        rw [Lib.exit_func s.data.toList k (by rw [← Lib.size_eq]; omega) hsp.out]
        rw [Any.ba_eq (Lib.goTrim (s.extract k s.size)) (Lib.trimSpaceD (s.data.toList.drop k)) (by
          rw [Lib.goTrim_eq, Lib.extract_data, List.take_of_length_le (by rw [List.length_drop, ← Lib.size_eq]; exact Nat.le_refl _)])]
      have hTx : W1.cell? ⟨0, x.toNat, none⟩ = some (.int .u8 (if Lib.isSp x then 1 else 0)) := by
        have := HT.out x.toNat (UInt8.toNat_lt x)
        simpa using this
      have Hxk := Lib.hid hxk
      clear hx hxk
      cases hsx : Lib.isSp x with
      | true =>
        rw [hsx] at hTx
        simp only [if_true] at hTx
        go_wp2
        go_round
        case rel =>
          refine ⟨rfl, k + 1, by omega, by go_num, fun j b hj hb => ?_⟩
          by_cases e : j = k
          · subst e
            rw [Hxk.out] at hb
            cases hb
            exact hsx
          · exact hsp.out j b (by omega) hb
        case measure => simp [intOf]; omega
      | false =>
        rw [hsx] at hTx
        simp only [Bool.false_eq_true, if_false] at hTx
        -- 's = s[lo:]'
        have hsl1 : ∀ w, (Instr.slice 9 (.string s) (some (.int .i64 (k : Int))) none none).run Tryd.prog w = .ok (.string (s.extract k s.size)) w := fun w => by
          rw [run_slice_string_from_if w 9 s .i64 _ Tryd.underlying9, if_pos ⟨by omega, by omega⟩]
          rfl
        have hts : (s.extract k s.size).size = s.size - k := by
          rw [Lib.size_eq, Lib.extract_data, List.length_take, List.length_drop, ← Lib.size_eq]
          omega
        have htd : ∀ j : Nat, (s.extract k s.size).data.toList[j]? = if j < s.size - k then s.data.toList[k + j]? else none := by
          intro j
          rw [Lib.extract_data, List.getElem?_take]
          split
          · rw [List.getElem?_drop]
          · rfl
        have hte : (s.extract k s.size).data.toList = (s.data.toList.drop k).take (s.size - k) := Lib.extract_data s k s.size
        generalize s.extract k s.size = t at hts htd hte hsl1
        have Htd := Lib.hid htd
        have Hte := Lib.hid hte
        clear htd hte
        go_wp2
        go_loop [5] (fun h => ∃ m : Nat, m < s.size - k ∧ h = .int .i64 m ∧ Hid (∀ (j : Nat) b, k + m < j → s.data.toList[j]? = some b → Lib.isSp b = true)) (fun h => (intOf h).toNat)
        case atStart =>
          refine ⟨s.size - k - 1, by omega, by go_num, fun j b hj hb => ?_⟩
          have : s.data.toList.length ≤ j := by rw [← Lib.size_eq]; omega
          simp [List.getElem?_eq_none this] at hb
        case round =>
          obtain ⟨m, hm, rfl, hsp2⟩ := hrel
          have hmt : m < t.size := by omega
          have hty : t.data.toList[m]? = some (t[m]'hmt) := by
            rw [Array.getElem?_toList]
            exact Array.getElem?_eq_getElem hmt
          have hsm : s.data.toList[k + m]? = some (t[m]'hmt) := by rw [← hty, Htd.out m, if_pos hm]
          by_cases hy128 : (128 : Int) ≤ ((t[m]'hmt).toNat : Int)
          case pos =>
            -- ████ A BYTE FROM 128 ON, FROM THE END: 'return TrimRightFunc(s[:hi+1], unicode.IsSpace)'
            have hys : (t.extract 0 (m + 1)).size ≤ 9223372036854775807 := by
              rw [Lib.size_eq, Lib.extract_data, List.length_take, List.length_drop, ← Lib.size_eq]; omega
            have cR := g_TrimRightFunc_space (t.extract 0 (m + 1)) W1 hys hT1 hWh
            have hslB : ∀ w, (Instr.slice 9 (.string t) none (some (.int .i64 ((m : Int) + 1))) none).run Tryd.prog w = .ok (.string (t.extract 0 (m + 1))) w := fun w => by
              rw [run_slice_string_to_if w 9 t .i64 _ Tryd.underlying9, if_pos ⟨by omega, by omega⟩, show ((m : Int) + 1).toNat = m + 1 by omega]
            go_wp2_with (go_at_call 102; go_fit cR; rintro e W' ⟨rfl, hb⟩)
            go_ret
            refine ⟨?_, hbW.trans (hb.mono hbW.size)⟩
            show Ending.returned (Value.string (Lib.goTrimRight (t.extract 0 (m + 1)))) = _
            have hYd : (t.extract 0 (m + 1)).data.toList = (s.data.toList.drop k).take (k + m + 1 - k) := by
              rw [Lib.extract_data, Hte.out, List.drop_zero, List.take_take]
              congr 1
              omega
            rw [Lib.exit_right s.data.toList k (k + m) (by omega) (by rw [← Lib.size_eq]; omega) hsp.out x Hxk.out hsx (by omega) hsp2.out]
            rw [Any.ba_eq (Lib.goTrimRight (t.extract 0 (m + 1))) _ (by rw [Lib.goTrimRight_eq, hYd])]
          have hTy : W1.cell? ⟨0, (t[m]'hmt).toNat, none⟩ = some (.int .u8 (if Lib.isSp (t[m]'hmt) then 1 else 0)) := by
            have := HT.out (t[m]'hmt).toNat (UInt8.toNat_lt _)
            simpa using this
          have Hsm := Lib.hid hsm
          clear hty hsm
          cases hsy : Lib.isSp (t[m]'hmt) with
          | true =>
            rw [hsy] at hTy
            simp only [if_true] at hTy
            -- place 0 holds x, which is no space: so m is not 0
            have hm0 : 0 < m := by
              rcases Nat.eq_zero_or_pos m with e | e
              · subst e
                have h1 := Hsm.out
                rw [Nat.add_zero, Hxk.out] at h1
                cases h1
                rw [hsx] at hsy
                cases hsy
              · exact e
            go_wp2
            go_round
            case rel =>
              refine ⟨m - 1, by omega, by go_num, fun j b hj hb => ?_⟩
              by_cases e : j = k + m
              · subst e
                rw [Hsm.out] at hb
                cases hb
                exact hsy
              · exact hsp2.out j b (by omega) hb
            case measure => simp [intOf]; omega
          | false =>
            rw [hsy] at hTy
            simp only [Bool.false_eq_true, if_false] at hTy
            -- 'return s[:hi+1]'
            have hsl2 : ∀ w, (Instr.slice 9 (.string t) none (some (.int .i64 ((m : Int) + 1))) none).run Tryd.prog w = .ok (.string (t.extract 0 (m + 1))) w := fun w => by
              rw [run_slice_string_to_if w 9 t .i64 _ Tryd.underlying9, if_pos ⟨by omega, by omega⟩, show ((m : Int) + 1).toNat = m + 1 by omega]
            go_wp2
            go_ret
            refine ⟨?_, hbW⟩
            have hcut := Lib.exit_cut s.data.toList k (k + m) (by omega) (by rw [← Lib.size_eq]; omega) hsp.out x Hxk.out hsx (by omega) _ Hsm.out hsy (by omega) hsp2.out
            rw [hcut]
            show Ending.returned (Value.string (t.extract 0 (m + 1))) = _
            rw [Any.ba_eq (t.extract 0 (m + 1)) ((s.data.toList.drop k).take (k + m + 1 - k)) (by
              rw [Lib.extract_data, Hte.out, List.drop_zero, List.take_take]
              congr 1
              omega)]
    · have hke : k = s.size := by omega
      subst hke
      go_wp2
      go_ret
      refine ⟨?_, hbW⟩
      rw [Lib.exit_all s.data.toList (fun j b hb => hsp.out j b (by
        have : j < s.data.toList.length := by
          rcases Nat.lt_or_ge j s.data.toList.length with h | h
          · exact h
          · simp [List.getElem?_eq_none h] at hb
        rw [Lib.size_eq]; exact this) hb)]
      rfl
end Go.Proofs.YthnbifkcbeldmaaDoor
