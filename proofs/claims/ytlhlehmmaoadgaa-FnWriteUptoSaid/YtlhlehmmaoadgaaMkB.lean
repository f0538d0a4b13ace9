/- (*Replacer).build: bytes to bytes. -/
import Derived.Test.YtlhlehmmaoadgaaMk
import Derived.Deep.WholeRow
namespace Go.Proofs.Ytlhlehmmaoadgaa
open Go.RowKit Go.Lib
set_option linter.unusedVariables false

/-- a table of bytes under construction -/
structure BTab (w : World) (rb : Nat) (g : Nat → Nat) : Prop where
  c : ∀ k, k < 256 → w.cell? ⟨rb, k, none⟩ = some (.int .u8 (g k))
  fz : ∀ k, w.frozen? ⟨rb, k, none⟩ = false
theorem BTab.set {w : World} {rb : Nat} {g : Nat → Nat} (h : BTab w rb g) (k : Nat) (hk : k < 256) (x : Nat) : BTab (w.setCell ⟨rb, k, none⟩ (.int .u8 x)) rb (fun j => if j = k then x else g j) := by
  refine ⟨fun j hj => ?_, fun j => by simp [h.fz j]⟩
  by_cases e : j = k
  · subst e; rw [World.cell?_setCell_same _ _ _ (h.c j hj)]; simp
  · rw [World.cell?_setCell_other _ _ _ _ (by intro e2; injection e2; omega), h.c j hj]; simp [e]
theorem BTab.congr {w : World} {rb : Nat} {g g' : Nat → Nat} (h : BTab w rb g) (e : ∀ k, k < 256 → g k = g' k) : BTab w rb g' := ⟨fun k hk => by rw [← e k hk]; exact h.c k hk, h.fz⟩
def zeroB : Array Value := Array.replicate 256 (.int .u8 0)
theorem zeroB_at (k : Nat) (hk : k < 256) : zeroB[k]? = some (.int .u8 0) := by unfold zeroB; simp [hk]
theorem BTab.new (w : World) (T : TypeId) : BTab (w.alloc (.cells zeroB T)) w.heap.size (fun _ => 0) :=
  ⟨fun k hk => by rw [World.cell?_alloc_at _ _ _ _ rfl]; exact zeroB_at k hk, fun k => World.frozen?_alloc_at _ _ _ _ rfl⟩
theorem zeroB_size : zeroB.size = 256 := by simp [zeroB]
theorem infoBytes : (Try.prog.info? 58).map (·.size) = some zeroB.size := by rw [zeroB_size]; kernel_rfl
theorem zeroB_one : zeroB.all (·.oneCell') = true := by kernel_rfl
theorem zero_bytes : (∀ w : World, (zeroValue 58).run Try.prog w = .ok (.agg zeroB) w) ∧ (zeroB).size = 256 ∧ zeroB ≠ #[] :=
  have hs : (zeroB).size = 256 := zeroB_size
  ⟨fun w => by kernel_rfl, hs, fun e => by have h := hs; rw [e] at h; cases h⟩
def B2 (w : World) (rb : Nat) (v : Value) (wr : World) : Prop := ∃ k : Nat, v = .int .i64 k ∧ k ≤ 256 ∧ BTab wr rb (fun c => if c < k then c else 0) ∧ Below w.heap.size w wr
def B3 (w : World) (rb n : Nat) (l : List ByteArray) (v : Value) (wr : World) : Prop := ∃ j : Nat, v = .int .i64 (2 * (j : Int) - 2) ∧ j ≤ n ∧ BTab wr rb (fun c => (fB ((prs l).drop j) c.toUInt8).toNat) ∧ Below w.heap.size w wr
theorem one_byte (z : ByteArray) (h : z.size = 1) : z.data.toList = [z[0]] := by
  have hz : z.data.toList.length = 1 := Eq.trans Array.length_toList h
  obtain ⟨x, hx⟩ := List.length_eq_one_iff.1 hz
  have h0 : 0 < z.data.toList.length := by omega
  have : z.data.toList[0] = x := by simp [hx]
  rw [hx, show z[0] = z.data.toList[0] from rfl, this]
theorem byte_split {l : List ByteArray} {n k : Nat} (hl : l.length = 2 * n) (hk : k < n) (h1 : l[2 * k].size = 1) : (prs l).drop k = ([l[2 * k][0]'(by omega)], l[2 * k + 1].data.toList) :: (prs l).drop (k + 1) := by
  have hlen : k < (prs l).length := by rw [prs_length]; omega
  rw [List.drop_eq_getElem_cons hlen]
  congr 1
  have hg := prs_get l k (by omega)
  rw [List.getElem?_eq_getElem hlen] at hg
  rw [Option.some.inj hg]
  have e1 : l.getD (2 * k) ⟨#[]⟩ = l[2 * k] := by simp [List.getD, show 2 * k < l.length by omega]
  have e2 : l.getD (2 * k + 1) ⟨#[]⟩ = l[2 * k + 1] := by simp [List.getD, show 2 * k + 1 < l.length by omega]
  rw [e1, e2]
  congr 1
  exact one_byte _ h1
set_option maxHeartbeats 6400000 in
set_option maxRecDepth 100000 in
theorem build_byte (rr n cap : Nat) (a : Option Addr) (l : List ByteArray) (w : World) (hc : w.cell? ⟨rr, 1, none⟩ = some (.slice a (2 * n) cap)) (hl : l.length = 2 * n) (hs : StrsAt w w.heap.size a l) (hn : 2 * n ≤ 2147483647) (hk : ∀ s ∈ l, s.size ≤ 2147483647)
    (hone : OldsOne l n) (hnew : NewsOne l n) :
    Calls Try.prog 17 #[.pointer (some ⟨rr, 0, none⟩)] w (MkPost w l n) := by
  have HS := Lib.hid hs
  have HL := Lib.hid hl
  have HK := Lib.hid hk
  have HONE := Lib.hid hone
  have HNEW := Lib.hid hnew
  obtain ⟨hzv, hzs, hzn⟩ := zero_bytes
  have hz0 : n = 1 → ∃ x z, a = some x ∧ w.cell? x = some (.string z) ∧ z.size = 1 := fun h => by
    obtain ⟨x, h1, _, h2⟩ := hs 0 (by omega)
    rw [show x.add 0 = x by unfold Addr.add; split <;> simp_all] at h2
    refine ⟨x, _, h1, h2, ?_⟩
    have := hone 0 (by omega)
    simpa [List.getD, show 0 < l.length by omega] using this
  have HZ0 := Lib.hid hz0
  have hways : ((2 * (n : Int)) == 2) = false ∨ n = 1 := by
    by_cases e : n = 1
    · exact .inr e
    · exact .inl (beq_eq_false_iff_ne.2 (by omega))
  have HW := Lib.hid hways
  clear hs hl hk hone hnew hz0 hways
  go_enter Try.func17, Try.ntmps17
  have pre : ((2 * (n : Int)) == 2) = false ∨ ∃ (x : Addr) (z : ByteArray), a = some x ∧ w.cell? x = some (.string z) ∧ ((2 * (n : Int)) == 2) = true ∧ (z.size : Int) ≤ 1 ∧ (2 : Int) ≤ 2 * (n : Int) := by
    rcases HW.out with h | h
    · exact .inl h
    · obtain ⟨x, z, h1, h2, h3⟩ := HZ0.out h
      exact .inr ⟨x, z, h1, h2, by rw [h]; rfl, by omega, by omega⟩
  clear HW HZ0
  rcases pre with h1 | ⟨x, z, rfl, hcx, h1, h2, h3⟩
  all_goals
    go_wp2_with fail
    go_loop [4, 5] (fun v4 v5 => ∃ (j : Nat), j ≤ n ∧ v5 = .int .i64 (2 * (j : Int)) ∧ v4 = .bool true) (fun _ v5 => 2 * n - (RowKit.intOf v5).toNat)
    case atStart => exact ⟨0, Nat.zero_le _, rfl, rfl⟩
    case round =>
      obtain ⟨j, hj, rfl, rfl⟩ := hrel
      by_cases hlt : j < n
      · have hjl : 2 * j < l.length := by have := HL.out; omega
        have hjl2 : 2 * j + 1 < l.length := by have := HL.out; omega
        obtain ⟨y, hy, _, hcy⟩ := HS.out (2 * j) hjl
        first | subst hy | (obtain rfl := Option.some.inj hy; clear hy)
        obtain ⟨y', hy', _, hcy'⟩ := HS.out (2 * j + 1) hjl2
        obtain rfl := Option.some.inj hy'
        rw [Addr.add_succ'] at hcy'
        have e1 : 2 * (j : Int) < 2 * (n : Int) := by omega
        have e2 : 2 * (j : Int) + 1 < 2 * (n : Int) := by omega
        have hd : ((l[2 * j].size : Int) != 1) = false := by
          have h3 := HONE.out j hlt
          rw [show l.getD (2 * j) ⟨#[]⟩ = l[2 * j] by simp [List.getD, hjl]] at h3
          rw [h3]; rfl
        have hd2 : ((l[2 * j + 1].size : Int) != 1) = false := by
          have h3 := HNEW.out j hlt
          rw [show l.getD (2 * j + 1) ⟨#[]⟩ = l[2 * j + 1] by simp [List.getD, hjl2]] at h3
          rw [h3]; rfl
        have hz1 : l[2 * j].size ≤ 2147483647 := HK.out _ (List.getElem_mem _)
        have hz2 : l[2 * j + 1].size ≤ 2147483647 := HK.out _ (List.getElem_mem _)
        generalize l[2 * j] = k1 at *
        generalize l[2 * j + 1] = k2 at *
        clear hy'
        go_wp2_with fail
        go_round
        case rel => exact ⟨j + 1, by omega, by go_num, rfl⟩
        case measure => simp [RowKit.intOf]; omega
      · obtain rfl : j = n := by omega
        have e1 : ¬ (2 * (j : Int) < 2 * (j : Int)) := by omega
        clear hlt hc
        have hst := run_storeCells_new (P := Try.prog) w 58 zeroB zeroB infoBytes rfl zeroB_one
        go_wp2_with fail
        clear hst
        have HT0 := Lib.hid (BTab.new w 58)
        have HB0 := Lib.hid ((Below.refl _ w).alloc (Nat.le_refl w.heap.size) (.cells zeroB 58))
        clear hzv hzs hzn
        generalize w.alloc (.cells zeroB 58) = w0 at HT0 HB0 ⊢
        go_loopw [7, 61] (fun _ v wr => B2 w w.heap.size v wr) (fun _ v _ => 256 - (RowKit.intOf v).toNat)
        case atStart => exact ⟨0, rfl, Nat.zero_le _, HT0.out, HB0.out⟩
        case round =>
          clear HT0 HB0
          obtain ⟨k, rfl, hk, T, B⟩ := hrel
          by_cases hk2 : k < 256
          · have i1 : (k : Int) < 256 := by omega
            have hck := T.c k hk2
            have hfz := T.fz k
            have HT := Lib.hid ((T.set k hk2 k).congr (g' := fun c => if c < k + 1 then c else 0) (fun c hc => by
              by_cases e : c = k
              · subst e; simp
              · by_cases e2 : c < k
                · simp [e, e2, show c < k + 1 by omega]
                · simp [e, e2, show ¬ c < k + 1 by omega]))
            have HB := Lib.hid (B.setCell (p := ⟨w.heap.size, k, none⟩) (Nat.le_refl _) (.int .u8 k))
            clear T
            go_wp2_with fail
            go_roundw
            case rel => exact ⟨k + 1, by go_num, by omega, HT.out, HB.out⟩
            case measure => simp [RowKit.intOf]; omega
          · obtain rfl : k = 256 := by omega
            have i1 : ¬ (256 : Int) < 256 := by omega
            clear hk2 hk
            go_wp2_with fail
            go_loopw [8, 9, 10] (fun v _ _ wr => B3 w w.heap.size j l v wr) (fun v _ _ _ => ((RowKit.intOf v) + 2).toNat)
            case atStart =>
              refine ⟨j, rfl, Nat.le_refl _, T.congr (fun c hc => ?_), B⟩
              rw [List.drop_eq_nil_of_le (by rw [prs_length]; have := HL.out; omega), if_pos hc]
              show c = (c.toUInt8).toNat
              simp
              omega
            case round =>
              clear T B
              obtain ⟨q, rfl, hq, T, B⟩ := hrel
              cases q with
              | zero =>
                have hfin : TabAt wr w.heap.size (fB (prs l)) := fun c => by
                  have := T.c c.toNat c.toNat_lt
                  rw [List.drop_zero] at this
                  rw [this]
                  simp
                have HF := Lib.hid hfin
                have hlt : w.heap.size < wr.heap.size := World.block_lt_of_cell? wr _ (T.c 0 (by omega))
                have i1 : ¬ (0 : Int) ≤ 2 * ((0 : Nat) : Int) - 2 := by omega
                have i2 : ¬ (0 : Int) ≤ -2 := by omega
                clear T hfin
                go_wp2_with fail
                go_ret
                exact ⟨_, rfl, fun w2 ha => .byte hlt (fun c => (ha.cell (Nat.le_refl _) hlt).trans (HF.out c)) (rep_fB (olds_prs HL.out HONE.out) (news_prs HL.out HNEW.out)), B⟩
              | succ k =>
                have hkl : 2 * k < l.length := by have := HL.out; omega
                have hkl2 : 2 * k + 1 < l.length := by have := HL.out; omega
                obtain ⟨y, hy, _, hcy⟩ := HS.out.below B (2 * k) hkl
                first | subst hy | (obtain rfl := Option.some.inj hy; clear hy)
                obtain ⟨y', hy', _, hcy'⟩ := HS.out.below B (2 * k + 1) hkl2
                obtain rfl := Option.some.inj hy'
                rw [Addr.add_succ'] at hcy'
                have e1 : 2 * (k : Int) < 2 * (j : Int) := by omega
                have e2 : 2 * (k : Int) + 1 < 2 * (j : Int) := by omega
                have e3 : (0 : Int) ≤ 2 * (k : Int) := by omega
                have hz1 : l[2 * k].size = 1 := by
                  have h3 := HONE.out k (by omega)
                  rwa [show l.getD (2 * k) ⟨#[]⟩ = l[2 * k] by simp [List.getD, hkl]] at h3
                have hz2 : l[2 * k + 1].size = 1 := by
                  have h3 := HNEW.out k (by omega)
                  rwa [show l.getD (2 * k + 1) ⟨#[]⟩ = l[2 * k + 1] by simp [List.getD, hkl2]] at h3
                have hsp := byte_split HL.out (by omega : k < j) hz1
                have hp1 : 0 < l[2 * k].size := by omega
                have hp2 : 0 < l[2 * k + 1].size := by omega
                have hp1' : (0 : Int) < l[2 * k].size := by omega
                have hp2' : (0 : Int) < l[2 * k + 1].size := by omega
                have ho2 := one_byte _ hz2
                have hset := T.set l[2 * k][0].toNat l[2 * k][0].toNat_lt l[2 * k + 1][0].toNat
                have HT := Lib.hid (hset.congr (g' := fun c => (fB ((prs l).drop k) c.toUInt8).toNat) (fun c hc => by
                  rw [hsp, fB_cons]
                  by_cases e : c = l[2 * k][0].toNat
                  · have e' : l[2 * k][0] = c.toUInt8 := by rw [e]; simp
                    rw [if_pos e, if_pos e', ho2]; rfl
                  · have e' : l[2 * k][0] ≠ c.toUInt8 := fun h => e (by rw [h]; simp; omega)
                    rw [if_neg e, if_neg e']))
                have hco := T.c l[2 * k][0].toNat l[2 * k][0].toNat_lt
                have hfz := T.fz l[2 * k][0].toNat
                have i5 : (l[2 * k][0].toNat : Int) < 256 := by have := l[2 * k][0].toNat_lt; omega
                have HB := Lib.hid (B.setCell (p := ⟨w.heap.size, l[2 * k][0].toNat, none⟩) (Nat.le_refl _) (.int .u8 (l[2 * k + 1][0].toNat : Int)))
                rw [show (2 * ((k + 1 : Nat) : Int) - 2) = 2 * (k : Int) by push_cast; omega]
                clear T hset hsp ho2 hz1 hz2 hy'
                go_wp2_with fail
                go_roundw
                case rel => exact ⟨k, by go_num, by omega, HT.out, HB.out⟩
                case measure => simp [RowKit.intOf]; omega
end Go.Proofs.Ytlhlehmmaoadgaa
