/- strings.Fields and strings.FieldsFunc: the pieces of a text without white space. (The library's own walks, turned to this program by wip/tools/unshelf2.py.) -/
import Derived.Test.YthnbifkcbeldmaaDoorPieces
import Derived.Shelf.Strings.FieldsAny
namespace Go.Proofs.YthnbifkcbeldmaaDoor
open Go Go.Shelf Go.RowKit Go.Lib Go.Proofs
set_option linter.unusedVariables false
theorem isSpacePays (w : World) (hW : Lib.WhiteTab 1 w) : PredAtRunes Tryd.prog 88 #[] Lib.isSpaceR w := fun W x hx hb => by
  have h := Tryd.unicode_IsSpace_any_d (x : Int) W (by omega) (by omega) (WhiteTab_below hW hb)
  rw [Lib.isSpaceZ_nat] at h
  exact h
set_option maxHeartbeats 4000000 in
set_option maxRecDepth 1000000 in
theorem gFieldsFunc (g : Nat) (lb : Array Value) (eg : ∀ args w, (callFunc g args).run Tryd.prog w = .ok (.enter g args) w) (p : Nat → Bool) (s : ByteArray) (w : World) (hs : s.size ≤ 4294967296) (hp : PredAtRunes Tryd.prog g lb p w)
    (hi154 : (Tryd.prog.info? 106).map (fun i => (i.zero, i.size, i.bytes)) = some (some (.agg #[.int .i64 0, .int .i64 0]), 2, 16))
    (hi9 : (Tryd.prog.info? 9).map (fun i => (i.zero, i.size, i.bytes)) = some (some (.string ⟨#[]⟩), 1, 16)) :
    Calls Tryd.prog 89 #[.string s, .func (.func g) #[] lb] w fun e w' => ∃ A, e = .returned (.slice (some ⟨A, 0, none⟩) (Lib.goFieldsP p s).length (Lib.goFieldsP p s).length) ∧ w.heap.size ≤ A ∧
      w'.ownsRow w.heap.size 9 1 (.slice (some ⟨A, 0, none⟩) (Lib.goFieldsP p s).length (Lib.goFieldsP p s).length) (Lib.goFieldsP p s).length ((Lib.goFieldsP p s).map Value.string) ∧ Below w.heap.size w w' := by
  have hGF : Lib.goFieldsP p s = (Lib.spansOfP p s).map fun x => s.extract x.1 x.2 := rfl
  rw [hGF, List.length_map, List.map_map]
  obtain ⟨i0, hi, hz0, hz1, hz2⟩ := info_parts hi154
  obtain ⟨W0, hmk, hown0, hg0⟩ := run_make_own (P := Tryd.prog) w w.heap.size 104 106 i0 _ 2 Tryd.underlying104 hi hz0 hz1 .i64 .i64 32 (by rw [hz2]; decide) (by unfold maxLen; decide) (Nat.le_refl _)
  rw [show ((32 : Nat) : Int) = 32 from rfl] at hmk
  have hb0 : Below w.heap.size w W0 := (Below.refl _ w).grown hg0 (Nat.le_refl _) (fun k hk => by cases hk)
  have u154 := run_underlying Tryd.underlying106
  have u152 := run_underlying Tryd.underlying104
  have u31 := run_underlying Tryd.underlying32
  go_enter Tryd.func89, Tryd.ntmps89
  go_wp2
  go_loopg [5, 6] s.size (fun gf s5 s6 wx => ∃ (pos : Nat) (st : Option Nat) (acc : List (Nat × Nat)) (z : Int), s6 = .int .i64 z ∧ (st = none → z < 0) ∧ (∀ a, st = some a → z = (a : Int)) ∧ -9223372036854775808 ≤ z ∧
      wx.ownsRow w.heap.size 106 2 s5 acc.length (Lib.spanCells acc) ∧ wx.heap[W0.heap.size]? = some (.stringIter s pos) ∧ Below w.heap.size w wx ∧
      Lib.spansFromP p s gf pos st acc = Lib.spansFromP p s s.size 0 none [] ∧ s.size ≤ pos + gf ∧ pos ≤ s.size ∧ acc.length ≤ pos ∧ (∀ a, st = some a → a < pos) ∧ (∀ x ∈ acc, x.1 ≤ x.2 ∧ x.2 ≤ s.size) ∧ s5 ≠ .slice none 0 0)
  case atStart =>
    exact ⟨0, none, [], -1, rfl, fun _ => by omega, (fun a h => by cases h), by omega, hown0.alloc _, World.iter_heap W0 s 0, hb0.alloc hb0.size _, rfl, by omega, Nat.zero_le _, Nat.le_refl _, (fun a h => by cases h), (fun x hx => by cases hx), (fun h => by cases h)⟩
  case round =>
    obtain ⟨pos, st, acc, z, rfl, hzn, hzs, hzl, hown, hit, hbw, hsp, hfu, hps, hal, hst, hok, hnn⟩ := hrel
    by_cases hlt : pos < s.size
    · obtain ⟨g', rfl⟩ : ∃ g', gk = g' + 1 := ⟨gk - 1, by omega⟩
      have hnx : ∀ ty, (Instr.next (.pointer (some ⟨W0.heap.size, 0, none⟩)) true ty).run Tryd.prog wr = _ := fun ty => Lib.run_next_any_at wr W0.heap.size s pos ty hit hlt
      have hwd := Lib.width_pos s pos
      have hwn : pos + (Utf8.decode s pos).2 ≤ s.size := by
        have := Lib.decodeN_le_n' (s.size - pos) (s.get! pos).toNat (s.get! (pos + 1)).toNat (s.get! (pos + 2)).toNat (s.get! (pos + 3)).toNat (by omega)
        rw [← Lib.decode_at] at this
        omega
      obtain ⟨R, hR⟩ : ∃ R, (Utf8.decode s pos).1 = R := ⟨_, rfl⟩
      obtain ⟨K, hK⟩ : ∃ K, (Utf8.decode s pos).2 = K := ⟨_, rfl⟩
      simp only [Lib.spansFromP, hlt, if_true, hR, hK] at hsp
      rw [hR, hK] at hnx
      rw [hK] at hwd hwn
      have hit2 := Lib.iterAt_heap wr W0.heap.size s pos (pos + K) hit
      have hbw2 := Lib.below_iterAt hbw (k := W0.heap.size) hb0.size s (pos + K)
      have hown2 := own_iterAt hown hit (pos + K)
      obtain ⟨W, hWd⟩ : ∃ W, wr.iterAt W0.heap.size s (pos + K) = W := ⟨_, rfl⟩
      rw [hWd] at hnx hit2 hbw2 hown2
      have cS : Calls Tryd.prog g (#[.int .i32 (R : Int)] ++ lb) W _ := hp W R (by rw [← hR]; exact Lib.rune_le s pos) hbw2
      clear hp hown hit hbw
      cases hpr : p R <;> rw [hpr] at cS <;> simp only [hpr, if_true, Bool.false_eq_true, if_false] at hsp
      · -- no separator
        cases st with
        | none =>
          have hz0' : z < 0 := hzn rfl
          go_wp2_with (go_at_fn g; go_must (refine cS.mono ?_; rintro e W' ⟨rfl, q, rfl⟩))
          go_roundg g'
          case measure => omega
          case rel => exact ⟨pos + K, some pos, acc, pos, rfl, (fun h => by cases h), fun a h => by cases h; rfl, by omega, own_drewN hown2 q, hit2, below_drewN' hbw2 q, hsp, by omega, hwn, by omega, fun a h => by cases h; omega, hok, hnn⟩
        | some a =>
          have hza : z = (a : Int) := hzs a rfl
          subst hza
          go_wp2_with (go_at_fn g; go_must (refine cS.mono ?_; rintro e W' ⟨rfl, q, rfl⟩))
          go_roundg g'
          case measure => omega
          case rel => exact ⟨pos + K, some a, acc, a, rfl, (fun h => by cases h), fun b h => by cases h; rfl, by omega, own_drewN hown2 q, hit2, below_drewN' hbw2 q, hsp, by omega, hwn, by omega, fun b h => by cases h; have := hst a rfl; omega, hok, hnn⟩
      · -- a separator
        cases st with
        | none =>
          have hz0' : z < 0 := hzn rfl
          go_wp2_with (go_at_fn g; go_must (refine cS.mono ?_; rintro e W' ⟨rfl, q, rfl⟩))
          go_roundg g'
          case measure => omega
          case rel => exact ⟨pos + K, none, acc, z, rfl, fun _ => hz0', (fun a h => by cases h), hzl, own_drewN hown2 q, hit2, below_drewN' hbw2 q, hsp, by omega, hwn, by omega, (fun a h => by cases h), hok, hnn⟩
        | some a =>
          have hza : z = (a : Int) := hzs a rfl
          subst hza
          go_wp2_with (first
            | (go_at_fn g; go_must (refine cS.mono ?_; rintro e W' ⟨rfl, q, rfl⟩))
            | (at_builtin; go_must (refine wpList_append_own _ rfl (.tmp 24) (.tmp 28) 104 rfl w.heap.size 106 i0 (.agg #[.int .i64 0, .int .i64 0]) 2 16 Tryd.underlying104 hi hz0 hz1 hz2 rfl (by decide) _ _ _ rfl ((own_drewN hown2 q).alloc _) ⟨(W.drewN q).heap.size, 0, none⟩ 1 1 [.int .i64 (a : Int), .int .i64 (pos : Int)] rfl rfl (cell_two_new' _ _ _ _) (by intro u hu; simp at hu; rcases hu with rfl | rfl <;> rfl) (by unfold maxLen; omega) (by omega) (by have := hbw2.size; simp; omega) ?_; intro v3 w3 hown3 hgrow3 hnil3)))
          rw [i64_not a (by have := hst a rfl; omega)]
          go_roundg g'
          case measure => omega
          case rel =>
            have hIT : W0.heap.size < W.heap.size := (Array.getElem?_eq_some_iff.1 hit2).1
            have hap := hst a rfl
            have hX := (own_drewN hown2 q).alloc (.cells #[.int .i64 (a : Int), .int .i64 (pos : Int)] 106)
            refine ⟨pos + K, none, acc ++ [(a, pos)], -1 - (a : Int), rfl, fun _ => by omega, (fun b h => by cases h), by omega, by rw [List.length_append, Lib.spanCells_snoc]; exact hown3, ?_, ?_, hsp, by omega, hwn, by simp; omega, (fun b h => by cases h), ?_, fun h => by have := (hnil3.1 h).2; omega⟩
            · exact (hgrow3.block W0.heap.size (by simp; omega) (own_ne_iter hown2 hit2)).trans ((Below.heap_alloc _ _ _ hIT).trans hit2)
            · exact ((below_drewN' hbw2 q).alloc (by have := hbw2.size; exact this) _).grown hgrow3 (by have := hbw2.size; simp; omega) (fun j hj => (hX.lt j hj).1)
            · intro x hx
              rcases List.mem_append.1 hx with h | h
              · exact hok x h
              · simp at h; subst h; have := hst a rfl; exact ⟨by simp; omega, by simp; omega⟩
    · -- the runes are through
      obtain rfl : pos = s.size := by omega
      have hnx : ∀ ty, (Instr.next (.pointer (some ⟨W0.heap.size, 0, none⟩)) true ty).run Tryd.prog wr = _ := fun ty => Lib.run_next_end_at wr W0.heap.size s s.size ty hit hlt
      rw [Lib.spansFromP_end p s gk _ _ _ hlt] at hsp
      have hSP : Lib.spansOfP p s = Lib.closeSpans s (acc, st) := by unfold Lib.spansOfP; rw [← hsp]
      have hokS : ∀ x ∈ Lib.spansOfP p s, x.1 ≤ x.2 ∧ x.2 ≤ s.size := by
        rw [hSP]
        cases st with
        | none => exact hok
        | some a =>
          intro x hx
          rcases List.mem_append.1 hx with h | h
          · exact hok x h
          · simp at h; subst h; have := hst a rfl; exact ⟨by simp; omega, by simp⟩
      have hlenS : (Lib.spansOfP p s).length ≤ s.size + 1 := by
        rw [hSP]
        cases st with
        | none => show acc.length ≤ _; omega
        | some a => show (acc ++ [(a, s.size)]).length ≤ _; simp; omega
      clear hp
      go_upto_if 36 with fail
      go_cut [5] (fun s5 wx => wx.ownsRow w.heap.size 106 2 s5 (Lib.spansOfP p s).length (Lib.spanCells (Lib.spansOfP p s)) ∧ Below w.heap.size w wx ∧ s5 ≠ .slice none 0 0)
      case first =>
        cases st with
        | none =>
          have hz0' : z < 0 := hzn rfl
          go_wp2_with fail
          go_meet
          exact ⟨by rw [hSP]; exact hown, hbw, hnn⟩
        | some a =>
          have hza : z = (a : Int) := hzs a rfl
          subst hza
          go_wp2_with (at_builtin; go_must (refine wpList_append_own _ rfl (.tmp 37) (.tmp 42) 104 rfl w.heap.size 106 i0 (.agg #[.int .i64 0, .int .i64 0]) 2 16 Tryd.underlying104 hi hz0 hz1 hz2 rfl (by decide) _ _ _ rfl (hown.alloc _) ⟨wr.heap.size, 0, none⟩ 1 1 [.int .i64 (a : Int), .int .i64 (s.size : Int)] rfl rfl (cell_two_new' _ _ _ _) (by intro u hu; simp at hu; rcases hu with rfl | rfl <;> rfl) (by unfold maxLen; omega) (by omega) (by have := hbw.size; simp; omega) ?_; intro v3 w3 hown3 hgrow3 hnil3))
          go_wp2_with fail
          go_meet
          have hX := hown.alloc (.cells #[.int .i64 (a : Int), .int .i64 (s.size : Int)] 106)
          exact ⟨by rw [hSP]; show w3.ownsRow _ _ _ _ (acc ++ [(a, s.size)]).length (Lib.spanCells (acc ++ [(a, s.size)])); rw [List.length_append, Lib.spanCells_snoc]; exact hown3,
            (hbw.alloc hbw.size _).grown hgrow3 (by have := hbw.size; simp; omega) (fun j hj => (hX.lt j hj).1), fun h => by have := (hnil3.1 h).2; omega⟩
      case rest =>
        obtain ⟨hownS, hbS, hnnS⟩ := hcut
        obtain ⟨SP, hSPe⟩ : ∃ SP, Lib.spansOfP p s = SP := ⟨_, rfl⟩
        rw [hSPe] at hownS hokS hlenS
        clear hSP hsp hown hit hbw hok hnn
        obtain ⟨g5, cap5, rfl⟩ : ∃ g5 cap5, u5 = .slice (some ⟨g5, 0, none⟩) SP.length cap5 := by
          rcases hownS.2 with ⟨h, _⟩ | ⟨g5, cap5, _, h, _⟩
          · exact absurd h hnnS
          · exact ⟨g5, cap5, h⟩
        have hg5 : g5 < wc.heap.size := (hownS.lt g5 rfl).2
        obtain ⟨i9, hi9', hz90, hz91, hz92⟩ := info_parts hi9
        obtain ⟨W5, hmk5, hown5, hgr5⟩ := run_make_full (P := Tryd.prog) wc w.heap.size 32 9 i9 _ 1 Tryd.underlying32 hi9' hz90 hz91 .i64 .i64 SP.length (by rw [hz92]; omega) (by unfold maxLen; omega) hbS.size
        have hS5 := hownS.kept hgr5 (Classical.em _)
        have hb5 : Below w.heap.size w W5 := hbS.grown hgr5 hbS.size (fun k hk => by cases hk)
        rw [show (Value.string ⟨#[]⟩).cells = #[Value.string ⟨#[]⟩] from rfl, Nat.mul_one, toList_madeCells_one, ← Lib.rowAt_zero s SP] at hown5
        go_wp2
        go_loopg [49] SP.length (fun gf s49 wx => ∃ i : Nat, i + gf = SP.length ∧ s49 = .int .i64 i ∧ wx.ownsRow w.heap.size 9 1 (.slice (some ⟨wc.heap.size, 0, none⟩) SP.length SP.length) SP.length (Lib.rowAt s SP i) ∧
          wx.ownsRow w.heap.size 106 2 (.slice (some ⟨g5, 0, none⟩) SP.length cap5) SP.length (Lib.spanCells SP) ∧ Below w.heap.size w wx)
        case atStart => exact ⟨0, by omega, rfl, hown5, hS5, hb5⟩
        case round =>
          obtain ⟨i, hig, rfl, hA, hS, hbr⟩ := hrel
          cases gk with
          | zero =>
            have hin : ¬ ((i : Int) < (SP.length : Int)) := by omega
            obtain rfl : i = SP.length := by omega
            go_wp2
            go_ret
            rw [Lib.rowAt_all] at hA
            subst hSPe
            exact ⟨wc.heap.size, rfl, hbS.size, hA, hbr⟩
          | succ gf =>
            have hin : (i : Int) < (SP.length : Int) := by omega
            obtain ⟨x, hx⟩ : ∃ x, SP[i]? = some x := ⟨_, List.getElem?_eq_getElem (by omega)⟩
            have hxo := hokS x (List.mem_of_getElem? hx)
            have hc0 : wr.cell? ⟨g5, i * 2, none⟩ = some (.int .i64 x.1) := (hS.cellAt (i * 2) (by omega)).trans (Lib.spanCells_at SP i x hx).1
            have hc1 : wr.cell? ⟨g5, i * 2 + 1, none⟩ = some (.int .i64 x.2) := (hS.cellAt (i * 2 + 1) (by omega)).trans (Lib.spanCells_at SP i x hx).2
            have hA' := hA.alloc (.cells #[.int .i64 (x.1 : Int), .int .i64 (x.2 : Int)] 106)
            have hS' := hS.alloc (.cells #[.int .i64 (x.1 : Int), .int .i64 (x.2 : Int)] 106)
            obtain ⟨old, hold⟩ : ∃ old, (Lib.rowAt s SP i)[i]? = some old := ⟨_, List.getElem?_eq_getElem (by have := hA.1; omega)⟩
            have hcA := (hA'.cellAt i (by omega)).trans hold
            have hfA := hA'.frozenAt i
            go_wp2
            go_roundg gf
            case measure => omega
            case rel =>
              have hst' := hA'.stored i (.string (s.extract x.1 x.2))
              rw [Lib.rowAt_set s SP i x hx] at hst'
              refine ⟨i + 1, by omega, by go_num, ?_, ?_, ?_⟩
              · exact hst'.1
              · exact hS'.kept hst'.2 (by simp [Value.ownBlock]; omega)
              · exact (hbr.alloc hbr.size _).grown hst'.2 (by have := hbr.size; simp; omega) (fun k hk => by cases hk; exact hbS.size)
set_option maxHeartbeats 16000000 in
set_option maxRecDepth 1000000 in
theorem gFieldsAscii (hi9 : (Tryd.prog.info? 9).map (fun i => (i.zero, i.size, i.bytes)) = some (some (.string ByteArray.empty), 1, 16)) (s : ByteArray) (w : World) (hs : s.size < 4294967281) (hascii : ∀ (j : Nat) b, s.data.toList[j]? = some b → b.toNat < 128)
    (hT : ∀ c : Nat, c < 256 → w.cell? ⟨0, c, none⟩ = some (.int .u8 (if Lib.isSp (UInt8.ofNat c) then 1 else 0))) :
    Calls Tryd.prog 54 #[.string s] w fun e w' =>
      e = .returned (.slice (some ⟨w.heap.size, 0, none⟩) (Lib.fields s.data.toList).length (Lib.fields s.data.toList).length) ∧ w' = w.alloc (.cells ((Lib.fields s.data.toList).map fun l => Value.string ⟨l.toArray⟩).toArray 9) := by
  have HA : Aside (∀ (j : Nat) b, s.data.toList[j]? = some b → b.toNat < 128) := hascii
  have HT : Aside (∀ c : Nat, c < 256 → w.cell? ⟨0, c, none⟩ = some (.int .u8 (if Lib.isSp (UInt8.ofNat c) then 1 else 0))) := hT
  have HT1 : Aside (∀ (o : Obj) (c : Nat), c < 256 → (w.alloc o).cell? ⟨0, c, none⟩ = some (.int .u8 (if Lib.isSp (UInt8.ofNat c) then 1 else 0))) := fun o c hc => by
    rw [World.cell?_alloc_old _ _ _ (Nat.ne_of_lt (World.block_lt_of_cell? _ _ (hT c hc)))]; exact hT c hc
  clear hascii hT
  obtain ⟨N, hN⟩ : ∃ N : Nat, (Lib.fields s.data.toList).length = N := ⟨_, rfl⟩
  rw [hN]
  have hNc : Lib.cntF true s.data.toList = N := by rw [← Lib.fields_length]; exact hN
  have hlen : s.data.toList.length = s.size := (Lib.size_eq s).symm
  go_enter Tryd.func54, Tryd.ntmps54
  go_wp2
  -- ████ THE FIRST PASS: the fields are counted
  go_loopg [3, 4, 5, 6] s.size (fun g s3 s4 s5 s6 wx => w = wx ∧ ∃ (k nn sb : Nat) (ws : Bool), k ≤ s.size ∧ g = s.size - k ∧ s6 = .int .i64 k ∧ s3 = .int .i64 nn ∧ s4 = .int .i64 (if ws then 1 else 0) ∧ s5 = .int .u8 sb ∧ sb < 128 ∧ nn ≤ k ∧
    nn + Lib.cntF ws (s.data.toList.drop k) = N)
  case atStart => exact ⟨rfl, 0, 0, 0, true, Nat.zero_le _, rfl, rfl, rfl, rfl, rfl, by omega, Nat.le_refl _, by simpa using hNc⟩
  case round =>
    obtain ⟨rfl, k, nn, sb, ws, hk, rfl, rfl, rfl, rfl, rfl, hsb, hnk, hc⟩ := hrel
    by_cases hkn : k < s.size
    · have hkz : (k : Int) < (s.size : Int) := by omega
      obtain ⟨x, hx⟩ : ∃ x : UInt8, s[k] = x := ⟨_, rfl⟩
      have hxl : s.data.toList[k]? = some x := by rw [← hx]; exact Lib.data_getElem? s k hkn
      have hx128 : x.toNat < 128 := HA.out k x hxl
      have hxz : (x.toNat : Int) < 256 := by omega
      have hTx : w.cell? ⟨0, x.toNat, none⟩ = some (.int .u8 (if Lib.isSp x then 1 else 0)) := by have := HT.out x.toNat (by omega); simpa using this
      have hor : bits .or .u8 (sb : Int) (x.toNat : Int) = ((sb ||| x.toNat : Nat) : Int) := u8_or_nat _ _ (by omega) (by omega)
      have hor128 : sb ||| x.toNat < 128 := Nat.or_lt_two_pow (n := 7) hsb hx128
      rw [Lib.drop_at hxl, Lib.cntF_step] at hc
      have HC : Aside (nn + ((if ws && !Lib.isSp x then 1 else 0) + Lib.cntF (Lib.isSp x) (s.data.toList.drop (k + 1))) = N) := hc
      clear hc hxl
      have b00 := andNot00; have b01 := andNot01; have b10 := andNot10; have b11 := andNot11
      cases hsx : Lib.isSp x <;> cases ws <;> rw [hsx] at hTx <;> simp only [if_true, Bool.false_eq_true, if_false] at hTx ⊢ <;>
        (go_wp2
         go_roundg (s.size - (k + 1))
         case measure => omega
         case rel =>
           have hc := HC.out
           rw [hsx] at hc
           simp at hc
           first
             | exact ⟨rfl, k + 1, nn, sb ||| x.toNat, false, by omega, rfl, by first | rfl | simp, by first | rfl | (simp; unfold RowKit.wrap64; omega), rfl, by first | rfl | simp, hor128, by omega, by omega⟩
             | exact ⟨rfl, k + 1, nn + 1, sb ||| x.toNat, false, by omega, rfl, by first | rfl | simp, by first | rfl | (simp; unfold RowKit.wrap64; omega), rfl, by first | rfl | simp, hor128, by omega, by omega⟩
             | exact ⟨rfl, k + 1, nn, sb ||| x.toNat, true, by omega, rfl, by first | rfl | simp, by first | rfl | (simp; unfold RowKit.wrap64; omega), rfl, by first | rfl | simp, hor128, by omega, by omega⟩)
    · obtain rfl : k = s.size := by omega
      -- (✋ 'wasSpace' is dead from here on, BUT ITS SLOT HOLDS AN 'if': the walk parts on every 'if' that it sees: behind a variable)
      generalize (if ws = true then (1 : Int) else 0) = v4
      have hkz : ¬ ((s.size : Int) < (s.size : Int)) := by omega
      have hsbz : ¬ ((128 : Int) ≤ (sb : Int)) := by omega
      obtain rfl : N = nn := by rw [← hlen, List.drop_length] at hc; simpa [Lib.cntF] using hc.symm
      clear hc
      have hmk := run_make_row' (P := Tryd.prog) 32 9 (.string ByteArray.empty) 16 Tryd.underlying32 hi9 rfl .i64 .i64 N (by omega) (by omega)
      go_upto_block 2 with fail
      clear hmk
      rw [← Lib.cellsOf_nil]
      -- ████ WHITE SPACE IN FRONT IS PASSED OVER: the loop has two ways out (the string's end; a byte that is none): THEY MEET: all that follows is walked once
      go_cut [12] from 42 to 55 (fun s12 wx => (w.alloc (.cells (Lib.cellsOf [] N) 9)) = wx ∧ ∃ i : Nat, i ≤ s.size ∧ s12 = .int .i64 i ∧ Lib.fieldsGo [] (s.data.toList.drop i) = Lib.fields s.data.toList ∧ ∀ y, s.data.toList[i]? = some y → Lib.isSp y = false)
      case first =>
        go_wp2_with fail
        go_loopg [12] s.size (fun g s12 wx => (w.alloc (.cells (Lib.cellsOf [] N) 9)) = wx ∧ ∃ i : Nat, i ≤ s.size ∧ g = s.size - i ∧ s12 = .int .i64 i ∧ Lib.fieldsGo [] (s.data.toList.drop i) = Lib.fields s.data.toList)
        case atStart => exact ⟨rfl, 0, Nat.zero_le _, rfl, rfl, rfl⟩
        case round =>
          obtain ⟨rfl, i, hi, rfl, rfl, hf⟩ := hrel
          have HF : Aside (Lib.fieldsGo [] (s.data.toList.drop i) = Lib.fields s.data.toList) := hf
          clear hf
          by_cases hin : i < s.size
          · have hiz : (i : Int) < (s.size : Int) := by omega
            obtain ⟨x, hx⟩ : ∃ x : UInt8, s[i] = x := ⟨_, rfl⟩
            have hxl : s.data.toList[i]? = some x := by rw [← hx]; exact Lib.data_getElem? s i hin
            have hx128 : x.toNat < 128 := HA.out i x hxl
            have hxz : (x.toNat : Int) < 256 := by omega
            have hTx : (w.alloc (.cells (Lib.cellsOf [] N) 9)).cell? ⟨0, x.toNat, none⟩ = some (.int .u8 (if Lib.isSp x then 1 else 0)) := by have := HT1.out (.cells (Lib.cellsOf [] N) 9) x.toNat (by omega); simpa using this
            have Hx : Aside (s.data.toList[i]? = some x) := hxl
            clear hxl
            cases hsx : Lib.isSp x <;> rw [hsx] at hTx <;> simp only [if_true, Bool.false_eq_true, if_false] at hTx
            · go_wp2
              go_meet
              exact ⟨rfl, i, hi, rfl, HF.out, fun y hy => by rw [Hx.out] at hy; cases hy; exact hsx⟩
            · go_wp2
              go_roundg (s.size - (i + 1))
              case measure => omega
              case rel => exact ⟨rfl, i + 1, by omega, rfl, by first | rfl | simp, by rw [← HF.out, Lib.drop_at Hx.out, Lib.fieldsGo_sp _ _ hsx]⟩
          · obtain rfl : i = s.size := by omega
            have hiz : ¬ ((s.size : Int) < (s.size : Int)) := by omega
            go_wp2
            go_meet
            exact ⟨rfl, s.size, Nat.le_refl _, rfl, HF.out, fun y hy => by rw [List.getElem?_eq_none (by omega)] at hy; cases hy⟩
      case rest =>
        obtain ⟨rfl, i0, hi0, rfl, hf0, hns0⟩ := hcut
        have H0 : Aside (Lib.fieldsGo [] (s.data.toList.drop i0) = Lib.fields s.data.toList ∧ ∀ y, s.data.toList[i0]? = some y → Lib.isSp y = false) := ⟨hf0, hns0⟩
        clear hf0 hns0
        go_wp2
        -- ████ THE FIELDS, one behind the other
        go_loopg [10, 11, 12] (s.size - i0) (fun g s10 s11 s12 wx => ∃ (done : List ByteArray) (fs i : Nat), s10 = .int .i64 done.length ∧ s11 = .int .i64 fs ∧ s12 = .int .i64 i ∧ fs ≤ i ∧ i ≤ s.size ∧ g = s.size - i ∧ wx = (w.alloc (.cells (Lib.cellsOf done N) 9)) ∧
          done.map (·.data.toList) ++ Lib.fieldsGo ((s.data.toList.drop fs).take (i - fs)) (s.data.toList.drop i) = Lib.fields s.data.toList ∧ (fs = i → ∀ y, s.data.toList[i]? = some y → Lib.isSp y = false))
        case atStart => exact ⟨[], i0, i0, rfl, rfl, rfl, Nat.le_refl _, hi0, rfl, rfl, by rw [Lib.piece_nil]; exact H0.out.1, fun _ => H0.out.2⟩
        case round =>
          obtain ⟨done, fs, i, rfl, rfl, rfl, hfi, hi, rfl, rfl, hinv, hside⟩ := hrel
          clear H0
          by_cases hin : i < s.size
          · have hiz : (i : Int) < (s.size : Int) := by omega
            obtain ⟨x, hx⟩ : ∃ x : UInt8, s[i] = x := ⟨_, rfl⟩
            have hxl : s.data.toList[i]? = some x := by rw [← hx]; exact Lib.data_getElem? s i hin
            have hx128 : x.toNat < 128 := HA.out i x hxl
            have hxz : (x.toNat : Int) < 256 := by omega
            have hTx : (w.alloc (.cells (Lib.cellsOf done N) 9)).cell? ⟨0, x.toNat, none⟩ = some (.int .u8 (if Lib.isSp x then 1 else 0)) := by have := HT1.out (.cells (Lib.cellsOf done N) 9) x.toNat (by omega); simpa using this
            have Hx : Aside (s.data.toList[i]? = some x) := hxl
            clear hxl
            cases hsx : Lib.isSp x <;> rw [hsx] at hTx <;> simp only [if_true, Bool.false_eq_true, if_false] at hTx
            · -- a byte of a field: 'i++; continue'
              have HI : Aside (done.map (·.data.toList) ++ Lib.fieldsGo ((s.data.toList.drop fs).take (i - fs)) (s.data.toList.drop i) = Lib.fields s.data.toList) := hinv
              clear hinv hside
              go_wp2
              go_roundg (s.size - (i + 1))
              case measure => omega
              case rel => exact ⟨done, fs, i + 1, rfl, rfl, by first | rfl | simp, by omega, by omega, rfl, rfl, by rw [Lib.piece_more hfi Hx.out, ← Lib.fieldsGo_more _ _ _ hsx, ← Lib.drop_at Hx.out]; exact HI.out, fun h => by omega⟩
            · -- white space: the field ends here: 'a[na] = s[fieldStart:i]; na++; i++'
              have hlt : fs < i := by
                refine Nat.lt_of_le_of_ne hfi fun h => ?_
                have := hside h x Hx.out
                rw [hsx] at this
                cases this
              rw [Lib.drop_at Hx.out, Lib.fieldsGo_end _ _ _ hsx (Lib.piece_ne hlt (by omega))] at hinv
              have hdN : done.length < N := by
                have := congrArg List.length hinv
                rw [hN] at this
                simp at this
                omega
              have hnext : (Lib.cellsOf done N)[done.length]? = some (.string ByteArray.empty) := Lib.cellsOf_next hdN
              have hdz : ((done.length : Nat) : Int) < (N : Int) := by omega
              have c1 : (fs : Int) ≤ (i : Int) := by omega
              have c2 : (i : Int) ≤ (s.size : Int) := by omega
              have HI : Aside ((done ++ [s.extract fs i]).map (·.data.toList) ++ Lib.fieldsGo [] (s.data.toList.drop (i + 1)) = Lib.fields s.data.toList) := by
                show _ = _
                rw [← hinv, List.map_append, List.map_cons, List.map_nil, Lib.extract_data]
                simp
              clear hinv hside
              go_wp2
              rw [Lib.cellsOf_set hdN]
              clear hnext hTx
              -- ████ white space between fields is passed over
              go_loopg [12] (s.size - (i + 1)) (fun g s12 wx => (w.alloc (.cells (Lib.cellsOf (done ++ [s.extract fs i]) N) 9)) = wx ∧ ∃ j : Nat, i + 1 ≤ j ∧ j ≤ s.size ∧ g = s.size - j ∧ s12 = .int .i64 j ∧ Lib.fieldsGo [] (s.data.toList.drop j) = Lib.fieldsGo [] (s.data.toList.drop (i + 1)))
              case atStart => exact ⟨rfl, i + 1, Nat.le_refl _, by omega, rfl, by first | rfl | simp, rfl⟩
              case round =>
                obtain ⟨rfl, j, hij, hj, rfl, rfl, hfj⟩ := hrel
                have HJ : Aside (Lib.fieldsGo [] (s.data.toList.drop j) = Lib.fieldsGo [] (s.data.toList.drop (i + 1))) := hfj
                clear hfj hx Hx hx128 hxz hsx
                by_cases hjn : j < s.size
                · have hjz : (j : Int) < (s.size : Int) := by omega
                  obtain ⟨x, hx⟩ : ∃ x : UInt8, s[j] = x := ⟨_, rfl⟩
                  have hxl : s.data.toList[j]? = some x := by rw [← hx]; exact Lib.data_getElem? s j hjn
                  have hx128 : x.toNat < 128 := HA.out j x hxl
                  have hxz : (x.toNat : Int) < 256 := by omega
                  have hTx : (w.alloc (.cells (Lib.cellsOf (done ++ [s.extract fs i]) N) 9)).cell? ⟨0, x.toNat, none⟩ = some (.int .u8 (if Lib.isSp x then 1 else 0)) := by have := HT1.out (.cells (Lib.cellsOf (done ++ [s.extract fs i]) N) 9) x.toNat (by omega); simpa using this
                  have Hx : Aside (s.data.toList[j]? = some x) := hxl
                  clear hxl
                  cases hsx : Lib.isSp x <;> rw [hsx] at hTx <;> simp only [if_true, Bool.false_eq_true, if_false] at hTx
                  · go_wp2
                    go_roundg (s.size - j)
                    case measure => omega
                    case rel => exact ⟨done ++ [s.extract fs i], j, j, by simp, rfl, rfl, Nat.le_refl _, hj, rfl, rfl, by rw [Lib.piece_nil, HJ.out]; exact HI.out, fun _ y hy => by rw [Hx.out] at hy; cases hy; exact hsx⟩
                  · go_wp2
                    go_roundg (s.size - (j + 1))
                    case measure => omega
                    case rel => exact ⟨rfl, j + 1, by omega, by omega, rfl, by first | rfl | simp, by rw [← HJ.out, Lib.drop_at Hx.out, Lib.fieldsGo_sp _ _ hsx]⟩
                · obtain rfl : j = s.size := by omega
                  have hjz : ¬ ((s.size : Int) < (s.size : Int)) := by omega
                  go_wp2
                  go_roundg (s.size - s.size)
                  case measure => omega
                  case rel => exact ⟨done ++ [s.extract fs i], s.size, s.size, by simp, rfl, rfl, Nat.le_refl _, Nat.le_refl _, rfl, rfl, by rw [Lib.piece_nil, HJ.out]; exact HI.out, fun _ y hy => by rw [List.getElem?_eq_none (by omega)] at hy; cases hy⟩
          · -- the string's end: 'if fieldStart < len(s) { a[na] = s[fieldStart:] }; return a'
            obtain rfl : i = s.size := by omega
            have hiz : ¬ ((s.size : Int) < (s.size : Int)) := by omega
            rw [← hlen, List.drop_length, hlen] at hinv
            clear hside
            by_cases hfl : fs < s.size
            · have hflz : (fs : Int) < (s.size : Int) := by omega
              have hne := Lib.piece_ne (l := s.data.toList) hfl (by omega)
              have e1 : Lib.fieldsGo ((s.data.toList.drop fs).take (s.size - fs)) [] = [(s.data.toList.drop fs).take (s.size - fs)] := by
                cases hc : (s.data.toList.drop fs).take (s.size - fs) with
                | nil => exact absurd hc hne
                | cons _ _ => rfl
              rw [e1] at hinv
              have hfin : (done ++ [s.extract fs s.size]).map (·.data.toList) = Lib.fields s.data.toList := by rw [← hinv, List.map_append, List.map_cons, List.map_nil, Lib.extract_data]
              have hdN : done.length + 1 = N := by
                have := congrArg List.length hfin
                rw [hN] at this
                simpa using this
              have hnext : (Lib.cellsOf done N)[done.length]? = some (.string ByteArray.empty) := Lib.cellsOf_next (by omega)
              have hdz : ((done.length : Nat) : Int) < (N : Int) := by omega
              have HFin : Aside ((done ++ [s.extract fs s.size]).map (·.data.toList) = Lib.fields s.data.toList) := hfin
              clear hinv hfin e1 hne
              go_wp2
              go_ret
              refine ⟨rfl, ?_⟩
              rw [Lib.cellsOf_set (by omega), ← Lib.pieces_eq HFin.out, ← Lib.cellsOf_full]
              congr 3
              simp; omega
            · obtain rfl : fs = s.size := by omega
              have hflz : ¬ ((s.size : Int) < (s.size : Int)) := by omega
              rw [Lib.piece_nil] at hinv
              have hfin : done.map (·.data.toList) = Lib.fields s.data.toList := by simpa [Lib.fieldsGo] using hinv
              have hdN : done.length = N := by
                have := congrArg List.length hfin
                rw [hN] at this
                simpa using this
              have HFin : Aside (done.map (·.data.toList) = Lib.fields s.data.toList) := hfin
              clear hinv hfin
              go_wp2
              go_ret
              refine ⟨rfl, ?_⟩
              rw [← Lib.pieces_eq HFin.out, ← Lib.cellsOf_full, hdN]
set_option maxHeartbeats 8000000 in
set_option maxRecDepth 1000000 in
theorem gFieldsBeyond (hi9 : (Tryd.prog.info? 9).map (fun i => (i.zero, i.size, i.bytes)) = some (some (.string ByteArray.empty), 1, 16))
    (hi154 : (Tryd.prog.info? 106).map (fun i => (i.zero, i.size, i.bytes)) = some (some (.agg #[.int .i64 0, .int .i64 0]), 2, 16))
    (s : ByteArray) (w : World) (hs : s.size < 4294967281) (hhigh : ∃ (j : Nat) (b : UInt8), s.data.toList[j]? = some b ∧ 128 ≤ b.toNat)
    (hT : ∀ c : Nat, c < 256 → w.cell? ⟨0, c, none⟩ = some (.int .u8 (if Lib.isSp (UInt8.ofNat c) then 1 else 0))) (hW : Lib.WhiteTab 1 w) :
    Calls Tryd.prog 54 #[.string s] w fun e w' => ∃ A, e = .returned (.slice (some ⟨A, 0, none⟩) (Lib.goFieldsP Lib.isSpaceR s).length (Lib.goFieldsP Lib.isSpaceR s).length) ∧ w.heap.size ≤ A ∧
      w'.ownsRow w.heap.size 9 1 (.slice (some ⟨A, 0, none⟩) (Lib.goFieldsP Lib.isSpaceR s).length (Lib.goFieldsP Lib.isSpaceR s).length) (Lib.goFieldsP Lib.isSpaceR s).length ((Lib.goFieldsP Lib.isSpaceR s).map Value.string) ∧ Below w.heap.size w w' := by
  have cF := gFieldsFunc 88 #[] (enters_of Tryd.func88 (by kernel_rfl) rfl) Lib.isSpaceR s w (by omega) (isSpacePays w hW) hi154 hi9
  generalize Lib.goFieldsP Lib.isSpaceR s = GF at cF ⊢
  have HH : Aside (∃ (j : Nat) (b : UInt8), s.data.toList[j]? = some b ∧ 128 ≤ b.toNat) := hhigh
  have HT : Aside (∀ c : Nat, c < 256 → w.cell? ⟨0, c, none⟩ = some (.int .u8 (if Lib.isSp (UInt8.ofNat c) then 1 else 0))) := hT
  clear hhigh hT hW
  have hlen : s.data.toList.length = s.size := (Lib.size_eq s).symm
  go_enter Tryd.func54, Tryd.ntmps54
  go_wp2
  go_loopg [3, 4, 5, 6] s.size (fun g s3 s4 s5 s6 wx => w = wx ∧ ∃ (k nn sb : Nat) (ws : Bool), k ≤ s.size ∧ g = s.size - k ∧ s6 = .int .i64 k ∧ s3 = .int .i64 nn ∧ s4 = .int .i64 (if ws then 1 else 0) ∧ s5 = .int .u8 sb ∧ sb < 256 ∧ nn ≤ k ∧
    Aside (128 ≤ sb ↔ ∃ (j : Nat) (b : UInt8), j < k ∧ s.data.toList[j]? = some b ∧ 128 ≤ b.toNat))
  case atStart => exact ⟨rfl, 0, 0, 0, true, Nat.zero_le _, rfl, rfl, rfl, rfl, rfl, by omega, Nat.le_refl _, ⟨fun h => by omega, fun ⟨j, b, hj, _⟩ => by omega⟩⟩
  case round =>
    obtain ⟨rfl, k, nn, sb, ws, hk, rfl, rfl, rfl, rfl, rfl, hsb, hnk, hc⟩ := hrel
    by_cases hkn : k < s.size
    · have hkz : (k : Int) < (s.size : Int) := by omega
      obtain ⟨x, hx⟩ : ∃ x : UInt8, s[k] = x := ⟨_, rfl⟩
      have hxl : s.data.toList[k]? = some x := by rw [← hx]; exact Lib.data_getElem? s k hkn
      have hx256 := x.toNat_lt
      have hxz : (x.toNat : Int) < 256 := by omega
      have hTx : w.cell? ⟨0, x.toNat, none⟩ = some (.int .u8 (if Lib.isSp x then 1 else 0)) := by have := HT.out x.toNat (by omega); simpa using this
      have hor : bits .or .u8 (sb : Int) (x.toNat : Int) = ((sb ||| x.toNat : Nat) : Int) := u8_or_nat _ _ (by omega) (by omega)
      have hor256 : sb ||| x.toNat < 256 := Nat.or_lt_two_pow (n := 8) hsb (by omega)
      have HC : Aside (128 ≤ (sb ||| x.toNat) ↔ ∃ (j : Nat) (b : UInt8), j < k + 1 ∧ s.data.toList[j]? = some b ∧ 128 ≤ b.toNat) := by
        show _ ↔ _
        rw [Lib.or_hi, hc.out]
        constructor
        · rintro (⟨j, b, hj, hb, h8⟩ | h8)
          · exact ⟨j, b, by omega, hb, h8⟩
          · exact ⟨k, x, by omega, hxl, h8⟩
        · rintro ⟨j, b, hj, hb, h8⟩
          by_cases e : j = k
          · subst e
            rw [hxl] at hb
            cases hb
            exact .inr h8
          · exact .inl ⟨j, b, by omega, hb, h8⟩
      clear hc hxl
      have b00 := andNot00; have b01 := andNot01; have b10 := andNot10; have b11 := andNot11
      cases hsx : Lib.isSp x <;> cases ws <;> rw [hsx] at hTx <;> simp only [if_true, Bool.false_eq_true, if_false] at hTx ⊢ <;>
        (go_wp2
         go_roundg (s.size - (k + 1))
         case measure => omega
         case rel =>
           first
             | exact ⟨rfl, k + 1, nn, sb ||| x.toNat, false, by omega, rfl, by first | rfl | simp, by first | rfl | (simp; unfold RowKit.wrap64; omega), rfl, by first | rfl | simp, hor256, by omega, HC⟩
             | exact ⟨rfl, k + 1, nn + 1, sb ||| x.toNat, false, by omega, rfl, by first | rfl | simp, by first | rfl | (simp; unfold RowKit.wrap64; omega), rfl, by first | rfl | simp, hor256, by omega, HC⟩
             | exact ⟨rfl, k + 1, nn, sb ||| x.toNat, true, by omega, rfl, by first | rfl | simp, by first | rfl | (simp; unfold RowKit.wrap64; omega), rfl, by first | rfl | simp, hor256, by omega, HC⟩)
    · obtain rfl : k = s.size := by omega
      generalize (if ws = true then (1 : Int) else 0) = v4
      have hkz : ¬ ((s.size : Int) < (s.size : Int)) := by omega
      have hsbz : (128 : Int) ≤ (sb : Int) := by
        obtain ⟨j, b, hb, h8⟩ := HH.out
        have hj : j < s.size := by rw [← hlen]; exact (List.getElem?_eq_some_iff.1 hb).1
        have := hc.out.2 ⟨j, b, hj, hb, h8⟩
        omega
      clear hc
      go_wp2_with (go_at_call 89; go_must (go_fit cF; rintro e w' ⟨A, rfl, hA1, hA2, hA3⟩))
      go_ret
      exact ⟨A, rfl, hA1, hA2, hA3⟩
end Go.Proofs.YthnbifkcbeldmaaDoor
