/- utf8.DecodeLastRune over bytes in a row (after the library's own walk, turned to this program). -/
import Derived.Test.YthnbifkcbeldmaaDoorDecRow2
import Derived.Test.YthnbifkcbeldmaaDoorShelf
import Derived.Shelf.Unicode.DecodeLast
namespace Go.Proofs.YthnbifkcbeldmaaDoor
open Go Go.Shelf Go.RowKit Go.Lib Go.Proofs
set_option linter.unusedVariables false
set_option linter.unusedSimpArgs false
theorem decRowP (s : ByteArray) (b off cap : Nat) (w : World) (hT : Lib.Utf8Tabs 2 3 w) (hp : ∀ j, j < s.size → w.cell? ⟨b, off + j, none⟩ = some (.int .u8 (s.get! j).toNat)) :
    Calls Tryd.prog 94 #[.slice (some ⟨b, off, none⟩) s.size cap] w fun e w' => e = .returned (.tuple #[.int .i32 (Lib.decodeGo s).1, .int .i64 (Lib.decodeGo s).2]) ∧ Below w.heap.size w w' :=
  decRow b off cap s w (fun i hi => by rw [← get_eq s i hi]; exact hp i hi) hT
theorem size_extract' (s : ByteArray) (a e : Nat) (h : a ≤ e ∧ e ≤ s.size) : (s.extract a e).size = e - a := by
  rw [Lib.size_eq, Lib.extract_data, List.length_take, List.length_drop, ← Lib.size_eq]
  omega

theorem get!_extract' (s : ByteArray) (a e j : Nat) (h : a + j < e) (_he : e ≤ s.size) : (s.extract a e).get! j = s.get! (a + j) := by
  rw [← getD_get!, ← getD_get!, Lib.extract_data]
  simp only [List.getD, List.getElem?_take, List.getElem?_drop]
  rw [if_pos (by omega)]

/-- The cells of a stretch of p are the bytes of the stretch. -/
theorem cells_extract {s : ByteArray} {b off a e : Nat} {w : World} (hp : ∀ j, j < s.size → w.cell? ⟨b, off + j, none⟩ = some (.int .u8 (s.get! j).toNat)) (h : a ≤ e ∧ e ≤ s.size) :
    ∀ j, j < (s.extract a e).size → w.cell? ⟨b, off + a + j, none⟩ = some (.int .u8 ((s.extract a e).get! j).toNat) := by
  intro j hj
  rw [size_extract' s a e h] at hj
  rw [get!_extract' s a e j (by omega) h.2, Nat.add_assoc]
  exact hp (a + j) (by omega)

set_option maxHeartbeats 2000000 in
set_option maxRecDepth 1000000 in
theorem LastB.one (s : ByteArray) (b off cap : Nat) (w : World) (hcap : s.size ≤ cap) (hp : ∀ j, j < s.size → w.cell? ⟨b, off + j, none⟩ = some (.int .u8 (s.get! j).toNat)) (hsz : s.size = 1) (hs : s.size ≤ 9223372036854775807) (hT : Lib.Utf8Tabs 2 3 w)
    (y1 : UInt8) (hy1 : w.cell? ⟨b, off, none⟩ = some (.int .u8 y1.toNat)) (hhi : 128 ≤ y1.toNat) :
    Calls Tryd.prog 110 #[.slice (some ⟨b, off, none⟩) s.size cap] w fun e w' => e = .returned (.tuple #[.int .i32 (Lib.lastOf s 0).1, .int .i64 (Lib.lastOf s 0).2]) ∧ Below w.heap.size w w' := by
  have hhz : ¬ ((y1.toNat : Int) < 128) := by omega
  have l1 := y1.toNat_lt
  rw [hsz] at hs
  have cD : ∀ x n c : Nat, x = off + (0) → n = (1) - (0) → Calls Tryd.prog 94 #[.slice (some ⟨b, x, none⟩) n c] w fun e w' => e = .returned (.tuple #[.int .i32 (Lib.decodeGo (s.extract 0 (1))).1, .int .i64 (Lib.decodeGo (s.extract 0 (1))).2]) ∧ Below w.heap.size w w' :=
    fun x n c hx hn => by
      rw [hx, hn]
      have := decRowP (s.extract (0) (1)) b (off + (0)) c w hT (cells_extract hp (by omega))
      rwa [size_extract' s _ _ (by omega)] at this
  unfold Lib.lastOf
  rw [hsz]
  obtain ⟨R, hR⟩ : ∃ R, (Lib.decodeGo (s.extract 0 (1))).1 = R := ⟨_, rfl⟩
  obtain ⟨K, hK⟩ : ∃ K, (Lib.decodeGo (s.extract 0 (1))).2 = K := ⟨_, rfl⟩
  simp only [hR, hK] at cD
  simp only [hR, hK]
  have hK4 : K ≤ 4 := by rw [← hK]; exact Lib.decodeGo_le4 _
  have hKn : 0 + K ≤ 1 := by
    have h1 := Lib.decodeGo_le_size (s.extract 0 (1))
    rw [hK, Lib.size_eq, Lib.extract_data, List.length_take, List.length_drop, ← Lib.size_eq, hsz] at h1
    omega
  clear hR hK hT hp
  by_cases hend : 0 + K = 1
  all_goals (try (exfalso; omega))
  all_goals
    (simp only [hend, if_true, if_false]
     go_enter Tryd.func110, Tryd.ntmps110
     go_wp2_with (first
      | (go_at_call 115; refine (Tryd.utf8_RuneStart _ _ (by omega) (by omega)).mono ?_; rintro e w' ⟨rfl, hw⟩; rw [hw])
      | (go_at_call 94; go_fit (cD _ _ _ (by omega) (by omega)); rintro e w' ⟨rfl, hb⟩))
     refine wp_loop_rounds 5 ?_
     repeat (rw [rounds_succ]; go_wp2_with (first
      | (go_at_call 115; refine (Tryd.utf8_RuneStart _ _ (by omega) (by omega)).mono ?_; rintro e w' ⟨rfl, hw⟩; rw [hw])
      | (go_at_call 94; go_fit (cD _ _ _ (by omega) (by omega)); rintro e w' ⟨rfl, hb⟩)))
     all_goals first
       | (go_ret2; exact ⟨rfl, hb⟩)
       | (exfalso; simp only [bne_iff_ne, ne_eq, bne_eq_false_iff_eq, beq_iff_eq, beq_eq_false_iff_ne, decide_eq_true_eq, decide_eq_false_iff_not] at *; omega))

set_option maxHeartbeats 2000000 in
set_option maxRecDepth 1000000 in
theorem LastB.at2 (s : ByteArray) (b off cap : Nat) (w : World) (hcap : s.size ≤ cap) (hp : ∀ j, j < s.size → w.cell? ⟨b, off + j, none⟩ = some (.int .u8 (s.get! j).toNat)) (m : Nat) (hsz : s.size = m + 2) (hs : s.size ≤ 9223372036854775807) (hT : Lib.Utf8Tabs 2 3 w)
    (y1 y2 : UInt8) (hy1 : w.cell? ⟨b, off + (m + 1), none⟩ = some (.int .u8 y1.toNat)) (hhi : 128 ≤ y1.toNat) (hy2 : w.cell? ⟨b, off + (m), none⟩ = some (.int .u8 y2.toNat)) (hr2 : Lib.runeStart (y2.toNat : Int) = true) :
    Calls Tryd.prog 110 #[.slice (some ⟨b, off, none⟩) s.size cap] w fun e w' => e = .returned (.tuple #[.int .i32 (Lib.lastOf s m).1, .int .i64 (Lib.lastOf s m).2]) ∧ Below w.heap.size w w' := by
  have hhz : ¬ ((y1.toNat : Int) < 128) := by omega
  have l1 := y1.toNat_lt; have l2 := y2.toNat_lt
  rw [hsz] at hs
  have cD : ∀ x n c : Nat, x = off + (m) → n = (m + 2) - (m) → Calls Tryd.prog 94 #[.slice (some ⟨b, x, none⟩) n c] w fun e w' => e = .returned (.tuple #[.int .i32 (Lib.decodeGo (s.extract m (m + 2))).1, .int .i64 (Lib.decodeGo (s.extract m (m + 2))).2]) ∧ Below w.heap.size w w' :=
    fun x n c hx hn => by
      rw [hx, hn]
      have := decRowP (s.extract (m) (m + 2)) b (off + (m)) c w hT (cells_extract hp (by omega))
      rwa [size_extract' s _ _ (by omega)] at this
  unfold Lib.lastOf
  rw [hsz]
  obtain ⟨R, hR⟩ : ∃ R, (Lib.decodeGo (s.extract m (m + 2))).1 = R := ⟨_, rfl⟩
  obtain ⟨K, hK⟩ : ∃ K, (Lib.decodeGo (s.extract m (m + 2))).2 = K := ⟨_, rfl⟩
  simp only [hR, hK] at cD
  simp only [hR, hK]
  have hK4 : K ≤ 4 := by rw [← hK]; exact Lib.decodeGo_le4 _
  have hKn : m + K ≤ m + 2 := by
    have h1 := Lib.decodeGo_le_size (s.extract m (m + 2))
    rw [hK, Lib.size_eq, Lib.extract_data, List.length_take, List.length_drop, ← Lib.size_eq, hsz] at h1
    omega
  clear hR hK hT hp
  by_cases hend : m + K = m + 2
  all_goals (try (exfalso; omega))
  all_goals
    (simp only [hend, if_true, if_false]
     go_enter Tryd.func110, Tryd.ntmps110
     go_wp2_with (first
      | (go_at_call 115; refine (Tryd.utf8_RuneStart _ _ (by omega) (by omega)).mono ?_; rintro e w' ⟨rfl, hw⟩; rw [hw])
      | (go_at_call 94; go_fit (cD _ _ _ (by omega) (by omega)); rintro e w' ⟨rfl, hb⟩))
     refine wp_loop_rounds 5 ?_
     repeat (rw [rounds_succ]; go_wp2_with (first
      | (go_at_call 115; refine (Tryd.utf8_RuneStart _ _ (by omega) (by omega)).mono ?_; rintro e w' ⟨rfl, hw⟩; rw [hw])
      | (go_at_call 94; go_fit (cD _ _ _ (by omega) (by omega)); rintro e w' ⟨rfl, hb⟩)))
     all_goals first
       | (go_ret2; exact ⟨rfl, hb⟩)
       | (exfalso; simp only [bne_iff_ne, ne_eq, bne_eq_false_iff_eq, beq_iff_eq, beq_eq_false_iff_ne, decide_eq_true_eq, decide_eq_false_iff_not] at *; omega))

set_option maxHeartbeats 2000000 in
set_option maxRecDepth 1000000 in
theorem LastB.two (s : ByteArray) (b off cap : Nat) (w : World) (hcap : s.size ≤ cap) (hp : ∀ j, j < s.size → w.cell? ⟨b, off + j, none⟩ = some (.int .u8 (s.get! j).toNat)) (hsz : s.size = 2) (hs : s.size ≤ 9223372036854775807) (hT : Lib.Utf8Tabs 2 3 w)
    (y1 y2 : UInt8) (hy1 : w.cell? ⟨b, off + (1), none⟩ = some (.int .u8 y1.toNat)) (hhi : 128 ≤ y1.toNat) (hy2 : w.cell? ⟨b, off, none⟩ = some (.int .u8 y2.toNat)) (hr2 : Lib.runeStart (y2.toNat : Int) = false) :
    Calls Tryd.prog 110 #[.slice (some ⟨b, off, none⟩) s.size cap] w fun e w' => e = .returned (.tuple #[.int .i32 (Lib.lastOf s 0).1, .int .i64 (Lib.lastOf s 0).2]) ∧ Below w.heap.size w w' := by
  have hhz : ¬ ((y1.toNat : Int) < 128) := by omega
  have l1 := y1.toNat_lt; have l2 := y2.toNat_lt
  rw [hsz] at hs
  have cD : ∀ x n c : Nat, x = off + (0) → n = (2) - (0) → Calls Tryd.prog 94 #[.slice (some ⟨b, x, none⟩) n c] w fun e w' => e = .returned (.tuple #[.int .i32 (Lib.decodeGo (s.extract 0 (2))).1, .int .i64 (Lib.decodeGo (s.extract 0 (2))).2]) ∧ Below w.heap.size w w' :=
    fun x n c hx hn => by
      rw [hx, hn]
      have := decRowP (s.extract (0) (2)) b (off + (0)) c w hT (cells_extract hp (by omega))
      rwa [size_extract' s _ _ (by omega)] at this
  unfold Lib.lastOf
  rw [hsz]
  obtain ⟨R, hR⟩ : ∃ R, (Lib.decodeGo (s.extract 0 (2))).1 = R := ⟨_, rfl⟩
  obtain ⟨K, hK⟩ : ∃ K, (Lib.decodeGo (s.extract 0 (2))).2 = K := ⟨_, rfl⟩
  simp only [hR, hK] at cD
  simp only [hR, hK]
  have hK4 : K ≤ 4 := by rw [← hK]; exact Lib.decodeGo_le4 _
  have hKn : 0 + K ≤ 2 := by
    have h1 := Lib.decodeGo_le_size (s.extract 0 (2))
    rw [hK, Lib.size_eq, Lib.extract_data, List.length_take, List.length_drop, ← Lib.size_eq, hsz] at h1
    omega
  clear hR hK hT hp
  by_cases hend : 0 + K = 2
  all_goals (try (exfalso; omega))
  all_goals
    (simp only [hend, if_true, if_false]
     go_enter Tryd.func110, Tryd.ntmps110
     go_wp2_with (first
      | (go_at_call 115; refine (Tryd.utf8_RuneStart _ _ (by omega) (by omega)).mono ?_; rintro e w' ⟨rfl, hw⟩; rw [hw])
      | (go_at_call 94; go_fit (cD _ _ _ (by omega) (by omega)); rintro e w' ⟨rfl, hb⟩))
     refine wp_loop_rounds 5 ?_
     repeat (rw [rounds_succ]; go_wp2_with (first
      | (go_at_call 115; refine (Tryd.utf8_RuneStart _ _ (by omega) (by omega)).mono ?_; rintro e w' ⟨rfl, hw⟩; rw [hw])
      | (go_at_call 94; go_fit (cD _ _ _ (by omega) (by omega)); rintro e w' ⟨rfl, hb⟩)))
     all_goals first
       | (go_ret2; exact ⟨rfl, hb⟩)
       | (exfalso; simp only [bne_iff_ne, ne_eq, bne_eq_false_iff_eq, beq_iff_eq, beq_eq_false_iff_ne, decide_eq_true_eq, decide_eq_false_iff_not] at *; omega))

set_option maxHeartbeats 2000000 in
set_option maxRecDepth 1000000 in
theorem LastB.at3 (s : ByteArray) (b off cap : Nat) (w : World) (hcap : s.size ≤ cap) (hp : ∀ j, j < s.size → w.cell? ⟨b, off + j, none⟩ = some (.int .u8 (s.get! j).toNat)) (m : Nat) (hsz : s.size = m + 3) (hs : s.size ≤ 9223372036854775807) (hT : Lib.Utf8Tabs 2 3 w)
    (y1 y2 y3 : UInt8) (hy1 : w.cell? ⟨b, off + (m + 2), none⟩ = some (.int .u8 y1.toNat)) (hhi : 128 ≤ y1.toNat) (hy2 : w.cell? ⟨b, off + (m + 1), none⟩ = some (.int .u8 y2.toNat)) (hr2 : Lib.runeStart (y2.toNat : Int) = false) (hy3 : w.cell? ⟨b, off + (m), none⟩ = some (.int .u8 y3.toNat)) (hr3 : Lib.runeStart (y3.toNat : Int) = true) :
    Calls Tryd.prog 110 #[.slice (some ⟨b, off, none⟩) s.size cap] w fun e w' => e = .returned (.tuple #[.int .i32 (Lib.lastOf s m).1, .int .i64 (Lib.lastOf s m).2]) ∧ Below w.heap.size w w' := by
  have hhz : ¬ ((y1.toNat : Int) < 128) := by omega
  have l1 := y1.toNat_lt; have l2 := y2.toNat_lt; have l3 := y3.toNat_lt
  rw [hsz] at hs
  have cD : ∀ x n c : Nat, x = off + (m) → n = (m + 3) - (m) → Calls Tryd.prog 94 #[.slice (some ⟨b, x, none⟩) n c] w fun e w' => e = .returned (.tuple #[.int .i32 (Lib.decodeGo (s.extract m (m + 3))).1, .int .i64 (Lib.decodeGo (s.extract m (m + 3))).2]) ∧ Below w.heap.size w w' :=
    fun x n c hx hn => by
      rw [hx, hn]
      have := decRowP (s.extract (m) (m + 3)) b (off + (m)) c w hT (cells_extract hp (by omega))
      rwa [size_extract' s _ _ (by omega)] at this
  unfold Lib.lastOf
  rw [hsz]
  obtain ⟨R, hR⟩ : ∃ R, (Lib.decodeGo (s.extract m (m + 3))).1 = R := ⟨_, rfl⟩
  obtain ⟨K, hK⟩ : ∃ K, (Lib.decodeGo (s.extract m (m + 3))).2 = K := ⟨_, rfl⟩
  simp only [hR, hK] at cD
  simp only [hR, hK]
  have hK4 : K ≤ 4 := by rw [← hK]; exact Lib.decodeGo_le4 _
  have hKn : m + K ≤ m + 3 := by
    have h1 := Lib.decodeGo_le_size (s.extract m (m + 3))
    rw [hK, Lib.size_eq, Lib.extract_data, List.length_take, List.length_drop, ← Lib.size_eq, hsz] at h1
    omega
  clear hR hK hT hp
  by_cases hend : m + K = m + 3
  all_goals (try (exfalso; omega))
  all_goals
    (simp only [hend, if_true, if_false]
     go_enter Tryd.func110, Tryd.ntmps110
     go_wp2_with (first
      | (go_at_call 115; refine (Tryd.utf8_RuneStart _ _ (by omega) (by omega)).mono ?_; rintro e w' ⟨rfl, hw⟩; rw [hw])
      | (go_at_call 94; go_fit (cD _ _ _ (by omega) (by omega)); rintro e w' ⟨rfl, hb⟩))
     refine wp_loop_rounds 5 ?_
     repeat (rw [rounds_succ]; go_wp2_with (first
      | (go_at_call 115; refine (Tryd.utf8_RuneStart _ _ (by omega) (by omega)).mono ?_; rintro e w' ⟨rfl, hw⟩; rw [hw])
      | (go_at_call 94; go_fit (cD _ _ _ (by omega) (by omega)); rintro e w' ⟨rfl, hb⟩)))
     all_goals first
       | (go_ret2; exact ⟨rfl, hb⟩)
       | (exfalso; simp only [bne_iff_ne, ne_eq, bne_eq_false_iff_eq, beq_iff_eq, beq_eq_false_iff_ne, decide_eq_true_eq, decide_eq_false_iff_not] at *; omega))

set_option maxHeartbeats 2000000 in
set_option maxRecDepth 1000000 in
theorem LastB.three (s : ByteArray) (b off cap : Nat) (w : World) (hcap : s.size ≤ cap) (hp : ∀ j, j < s.size → w.cell? ⟨b, off + j, none⟩ = some (.int .u8 (s.get! j).toNat)) (hsz : s.size = 3) (hs : s.size ≤ 9223372036854775807) (hT : Lib.Utf8Tabs 2 3 w)
    (y1 y2 y3 : UInt8) (hy1 : w.cell? ⟨b, off + (2), none⟩ = some (.int .u8 y1.toNat)) (hhi : 128 ≤ y1.toNat) (hy2 : w.cell? ⟨b, off + (1), none⟩ = some (.int .u8 y2.toNat)) (hr2 : Lib.runeStart (y2.toNat : Int) = false) (hy3 : w.cell? ⟨b, off, none⟩ = some (.int .u8 y3.toNat)) (hr3 : Lib.runeStart (y3.toNat : Int) = false) :
    Calls Tryd.prog 110 #[.slice (some ⟨b, off, none⟩) s.size cap] w fun e w' => e = .returned (.tuple #[.int .i32 (Lib.lastOf s 0).1, .int .i64 (Lib.lastOf s 0).2]) ∧ Below w.heap.size w w' := by
  have hhz : ¬ ((y1.toNat : Int) < 128) := by omega
  have l1 := y1.toNat_lt; have l2 := y2.toNat_lt; have l3 := y3.toNat_lt
  rw [hsz] at hs
  have cD : ∀ x n c : Nat, x = off + (0) → n = (3) - (0) → Calls Tryd.prog 94 #[.slice (some ⟨b, x, none⟩) n c] w fun e w' => e = .returned (.tuple #[.int .i32 (Lib.decodeGo (s.extract 0 (3))).1, .int .i64 (Lib.decodeGo (s.extract 0 (3))).2]) ∧ Below w.heap.size w w' :=
    fun x n c hx hn => by
      rw [hx, hn]
      have := decRowP (s.extract (0) (3)) b (off + (0)) c w hT (cells_extract hp (by omega))
      rwa [size_extract' s _ _ (by omega)] at this
  unfold Lib.lastOf
  rw [hsz]
  obtain ⟨R, hR⟩ : ∃ R, (Lib.decodeGo (s.extract 0 (3))).1 = R := ⟨_, rfl⟩
  obtain ⟨K, hK⟩ : ∃ K, (Lib.decodeGo (s.extract 0 (3))).2 = K := ⟨_, rfl⟩
  simp only [hR, hK] at cD
  simp only [hR, hK]
  have hK4 : K ≤ 4 := by rw [← hK]; exact Lib.decodeGo_le4 _
  have hKn : 0 + K ≤ 3 := by
    have h1 := Lib.decodeGo_le_size (s.extract 0 (3))
    rw [hK, Lib.size_eq, Lib.extract_data, List.length_take, List.length_drop, ← Lib.size_eq, hsz] at h1
    omega
  clear hR hK hT hp
  by_cases hend : 0 + K = 3
  all_goals (try (exfalso; omega))
  all_goals
    (simp only [hend, if_true, if_false]
     go_enter Tryd.func110, Tryd.ntmps110
     go_wp2_with (first
      | (go_at_call 115; refine (Tryd.utf8_RuneStart _ _ (by omega) (by omega)).mono ?_; rintro e w' ⟨rfl, hw⟩; rw [hw])
      | (go_at_call 94; go_fit (cD _ _ _ (by omega) (by omega)); rintro e w' ⟨rfl, hb⟩))
     refine wp_loop_rounds 5 ?_
     repeat (rw [rounds_succ]; go_wp2_with (first
      | (go_at_call 115; refine (Tryd.utf8_RuneStart _ _ (by omega) (by omega)).mono ?_; rintro e w' ⟨rfl, hw⟩; rw [hw])
      | (go_at_call 94; go_fit (cD _ _ _ (by omega) (by omega)); rintro e w' ⟨rfl, hb⟩)))
     all_goals first
       | (go_ret2; exact ⟨rfl, hb⟩)
       | (exfalso; simp only [bne_iff_ne, ne_eq, bne_eq_false_iff_eq, beq_iff_eq, beq_eq_false_iff_ne, decide_eq_true_eq, decide_eq_false_iff_not] at *; omega))

set_option maxHeartbeats 2000000 in
set_option maxRecDepth 1000000 in
theorem LastB.at4 (s : ByteArray) (b off cap : Nat) (w : World) (hcap : s.size ≤ cap) (hp : ∀ j, j < s.size → w.cell? ⟨b, off + j, none⟩ = some (.int .u8 (s.get! j).toNat)) (m : Nat) (hsz : s.size = m + 4) (hs : s.size ≤ 9223372036854775807) (hT : Lib.Utf8Tabs 2 3 w)
    (y1 y2 y3 y4 : UInt8) (hy1 : w.cell? ⟨b, off + (m + 3), none⟩ = some (.int .u8 y1.toNat)) (hhi : 128 ≤ y1.toNat) (hy2 : w.cell? ⟨b, off + (m + 2), none⟩ = some (.int .u8 y2.toNat)) (hr2 : Lib.runeStart (y2.toNat : Int) = false) (hy3 : w.cell? ⟨b, off + (m + 1), none⟩ = some (.int .u8 y3.toNat)) (hr3 : Lib.runeStart (y3.toNat : Int) = false) (hy4 : w.cell? ⟨b, off + (m), none⟩ = some (.int .u8 y4.toNat)) (hr4 : Lib.runeStart (y4.toNat : Int) = true) :
    Calls Tryd.prog 110 #[.slice (some ⟨b, off, none⟩) s.size cap] w fun e w' => e = .returned (.tuple #[.int .i32 (Lib.lastOf s m).1, .int .i64 (Lib.lastOf s m).2]) ∧ Below w.heap.size w w' := by
  have hhz : ¬ ((y1.toNat : Int) < 128) := by omega
  have l1 := y1.toNat_lt; have l2 := y2.toNat_lt; have l3 := y3.toNat_lt; have l4 := y4.toNat_lt
  rw [hsz] at hs
  have cD : ∀ x n c : Nat, x = off + (m) → n = (m + 4) - (m) → Calls Tryd.prog 94 #[.slice (some ⟨b, x, none⟩) n c] w fun e w' => e = .returned (.tuple #[.int .i32 (Lib.decodeGo (s.extract m (m + 4))).1, .int .i64 (Lib.decodeGo (s.extract m (m + 4))).2]) ∧ Below w.heap.size w w' :=
    fun x n c hx hn => by
      rw [hx, hn]
      have := decRowP (s.extract (m) (m + 4)) b (off + (m)) c w hT (cells_extract hp (by omega))
      rwa [size_extract' s _ _ (by omega)] at this
  unfold Lib.lastOf
  rw [hsz]
  obtain ⟨R, hR⟩ : ∃ R, (Lib.decodeGo (s.extract m (m + 4))).1 = R := ⟨_, rfl⟩
  obtain ⟨K, hK⟩ : ∃ K, (Lib.decodeGo (s.extract m (m + 4))).2 = K := ⟨_, rfl⟩
  simp only [hR, hK] at cD
  simp only [hR, hK]
  have hK4 : K ≤ 4 := by rw [← hK]; exact Lib.decodeGo_le4 _
  have hKn : m + K ≤ m + 4 := by
    have h1 := Lib.decodeGo_le_size (s.extract m (m + 4))
    rw [hK, Lib.size_eq, Lib.extract_data, List.length_take, List.length_drop, ← Lib.size_eq, hsz] at h1
    omega
  clear hR hK hT hp
  by_cases hend : m + K = m + 4
  all_goals (try (exfalso; omega))
  all_goals
    (simp only [hend, if_true, if_false]
     go_enter Tryd.func110, Tryd.ntmps110
     go_wp2_with (first
      | (go_at_call 115; refine (Tryd.utf8_RuneStart _ _ (by omega) (by omega)).mono ?_; rintro e w' ⟨rfl, hw⟩; rw [hw])
      | (go_at_call 94; go_fit (cD _ _ _ (by omega) (by omega)); rintro e w' ⟨rfl, hb⟩))
     refine wp_loop_rounds 5 ?_
     repeat (rw [rounds_succ]; go_wp2_with (first
      | (go_at_call 115; refine (Tryd.utf8_RuneStart _ _ (by omega) (by omega)).mono ?_; rintro e w' ⟨rfl, hw⟩; rw [hw])
      | (go_at_call 94; go_fit (cD _ _ _ (by omega) (by omega)); rintro e w' ⟨rfl, hb⟩)))
     all_goals first
       | (go_ret2; exact ⟨rfl, hb⟩)
       | (exfalso; simp only [bne_iff_ne, ne_eq, bne_eq_false_iff_eq, beq_iff_eq, beq_eq_false_iff_ne, decide_eq_true_eq, decide_eq_false_iff_not] at *; omega))

set_option maxHeartbeats 2000000 in
set_option maxRecDepth 1000000 in
theorem LastB.four (s : ByteArray) (b off cap : Nat) (w : World) (hcap : s.size ≤ cap) (hp : ∀ j, j < s.size → w.cell? ⟨b, off + j, none⟩ = some (.int .u8 (s.get! j).toNat)) (hsz : s.size = 4) (hs : s.size ≤ 9223372036854775807) (hT : Lib.Utf8Tabs 2 3 w)
    (y1 y2 y3 y4 : UInt8) (hy1 : w.cell? ⟨b, off + (3), none⟩ = some (.int .u8 y1.toNat)) (hhi : 128 ≤ y1.toNat) (hy2 : w.cell? ⟨b, off + (2), none⟩ = some (.int .u8 y2.toNat)) (hr2 : Lib.runeStart (y2.toNat : Int) = false) (hy3 : w.cell? ⟨b, off + (1), none⟩ = some (.int .u8 y3.toNat)) (hr3 : Lib.runeStart (y3.toNat : Int) = false) (hy4 : w.cell? ⟨b, off, none⟩ = some (.int .u8 y4.toNat)) (hr4 : Lib.runeStart (y4.toNat : Int) = false) :
    Calls Tryd.prog 110 #[.slice (some ⟨b, off, none⟩) s.size cap] w fun e w' => e = .returned (.tuple #[.int .i32 (Lib.lastOf s 0).1, .int .i64 (Lib.lastOf s 0).2]) ∧ Below w.heap.size w w' := by
  have hhz : ¬ ((y1.toNat : Int) < 128) := by omega
  have l1 := y1.toNat_lt; have l2 := y2.toNat_lt; have l3 := y3.toNat_lt; have l4 := y4.toNat_lt
  rw [hsz] at hs
  have cD : ∀ x n c : Nat, x = off + (0) → n = (4) - (0) → Calls Tryd.prog 94 #[.slice (some ⟨b, x, none⟩) n c] w fun e w' => e = .returned (.tuple #[.int .i32 (Lib.decodeGo (s.extract 0 (4))).1, .int .i64 (Lib.decodeGo (s.extract 0 (4))).2]) ∧ Below w.heap.size w w' :=
    fun x n c hx hn => by
      rw [hx, hn]
      have := decRowP (s.extract (0) (4)) b (off + (0)) c w hT (cells_extract hp (by omega))
      rwa [size_extract' s _ _ (by omega)] at this
  unfold Lib.lastOf
  rw [hsz]
  obtain ⟨R, hR⟩ : ∃ R, (Lib.decodeGo (s.extract 0 (4))).1 = R := ⟨_, rfl⟩
  obtain ⟨K, hK⟩ : ∃ K, (Lib.decodeGo (s.extract 0 (4))).2 = K := ⟨_, rfl⟩
  simp only [hR, hK] at cD
  simp only [hR, hK]
  have hK4 : K ≤ 4 := by rw [← hK]; exact Lib.decodeGo_le4 _
  have hKn : 0 + K ≤ 4 := by
    have h1 := Lib.decodeGo_le_size (s.extract 0 (4))
    rw [hK, Lib.size_eq, Lib.extract_data, List.length_take, List.length_drop, ← Lib.size_eq, hsz] at h1
    omega
  clear hR hK hT hp
  by_cases hend : 0 + K = 4
  all_goals (try (exfalso; omega))
  all_goals
    (simp only [hend, if_true, if_false]
     go_enter Tryd.func110, Tryd.ntmps110
     go_wp2_with (first
      | (go_at_call 115; refine (Tryd.utf8_RuneStart _ _ (by omega) (by omega)).mono ?_; rintro e w' ⟨rfl, hw⟩; rw [hw])
      | (go_at_call 94; go_fit (cD _ _ _ (by omega) (by omega)); rintro e w' ⟨rfl, hb⟩))
     refine wp_loop_rounds 5 ?_
     repeat (rw [rounds_succ]; go_wp2_with (first
      | (go_at_call 115; refine (Tryd.utf8_RuneStart _ _ (by omega) (by omega)).mono ?_; rintro e w' ⟨rfl, hw⟩; rw [hw])
      | (go_at_call 94; go_fit (cD _ _ _ (by omega) (by omega)); rintro e w' ⟨rfl, hb⟩)))
     all_goals first
       | (go_ret2; exact ⟨rfl, hb⟩)
       | (exfalso; simp only [bne_iff_ne, ne_eq, bne_eq_false_iff_eq, beq_iff_eq, beq_eq_false_iff_ne, decide_eq_true_eq, decide_eq_false_iff_not] at *; omega))

set_option maxHeartbeats 2000000 in
set_option maxRecDepth 1000000 in
theorem LastB.far (s : ByteArray) (b off cap : Nat) (w : World) (hcap : s.size ≤ cap) (hp : ∀ j, j < s.size → w.cell? ⟨b, off + j, none⟩ = some (.int .u8 (s.get! j).toNat)) (m : Nat) (hsz : s.size = m + 5) (hs : s.size ≤ 9223372036854775807) (hT : Lib.Utf8Tabs 2 3 w)
    (y1 y2 y3 y4 : UInt8) (hy1 : w.cell? ⟨b, off + (m + 4), none⟩ = some (.int .u8 y1.toNat)) (hhi : 128 ≤ y1.toNat) (hy2 : w.cell? ⟨b, off + (m + 3), none⟩ = some (.int .u8 y2.toNat)) (hr2 : Lib.runeStart (y2.toNat : Int) = false) (hy3 : w.cell? ⟨b, off + (m + 2), none⟩ = some (.int .u8 y3.toNat)) (hr3 : Lib.runeStart (y3.toNat : Int) = false) (hy4 : w.cell? ⟨b, off + (m + 1), none⟩ = some (.int .u8 y4.toNat)) (hr4 : Lib.runeStart (y4.toNat : Int) = false) :
    Calls Tryd.prog 110 #[.slice (some ⟨b, off, none⟩) s.size cap] w fun e w' => e = .returned (.tuple #[.int .i32 (Lib.lastOf s m).1, .int .i64 (Lib.lastOf s m).2]) ∧ Below w.heap.size w w' := by
  have hhz : ¬ ((y1.toNat : Int) < 128) := by omega
  have l1 := y1.toNat_lt; have l2 := y2.toNat_lt; have l3 := y3.toNat_lt; have l4 := y4.toNat_lt
  rw [hsz] at hs
  have cD : ∀ x n c : Nat, x = off + (m) → n = (m + 5) - (m) → Calls Tryd.prog 94 #[.slice (some ⟨b, x, none⟩) n c] w fun e w' => e = .returned (.tuple #[.int .i32 (Lib.decodeGo (s.extract m (m + 5))).1, .int .i64 (Lib.decodeGo (s.extract m (m + 5))).2]) ∧ Below w.heap.size w w' :=
    fun x n c hx hn => by
      rw [hx, hn]
      have := decRowP (s.extract (m) (m + 5)) b (off + (m)) c w hT (cells_extract hp (by omega))
      rwa [size_extract' s _ _ (by omega)] at this
  unfold Lib.lastOf
  rw [hsz]
  obtain ⟨R, hR⟩ : ∃ R, (Lib.decodeGo (s.extract m (m + 5))).1 = R := ⟨_, rfl⟩
  obtain ⟨K, hK⟩ : ∃ K, (Lib.decodeGo (s.extract m (m + 5))).2 = K := ⟨_, rfl⟩
  simp only [hR, hK] at cD
  simp only [hR, hK]
  have hK4 : K ≤ 4 := by rw [← hK]; exact Lib.decodeGo_le4 _
  have hKn : m + K ≤ m + 5 := by
    have h1 := Lib.decodeGo_le_size (s.extract m (m + 5))
    rw [hK, Lib.size_eq, Lib.extract_data, List.length_take, List.length_drop, ← Lib.size_eq, hsz] at h1
    omega
  clear hR hK hT hp
  by_cases hend : m + K = m + 5
  all_goals (try (exfalso; omega))
  all_goals
    (simp only [hend, if_true, if_false]
     go_enter Tryd.func110, Tryd.ntmps110
     go_wp2_with (first
      | (go_at_call 115; refine (Tryd.utf8_RuneStart _ _ (by omega) (by omega)).mono ?_; rintro e w' ⟨rfl, hw⟩; rw [hw])
      | (go_at_call 94; go_fit (cD _ _ _ (by omega) (by omega)); rintro e w' ⟨rfl, hb⟩))
     refine wp_loop_rounds 5 ?_
     repeat (rw [rounds_succ]; go_wp2_with (first
      | (go_at_call 115; refine (Tryd.utf8_RuneStart _ _ (by omega) (by omega)).mono ?_; rintro e w' ⟨rfl, hw⟩; rw [hw])
      | (go_at_call 94; go_fit (cD _ _ _ (by omega) (by omega)); rintro e w' ⟨rfl, hb⟩)))
     all_goals first
       | (go_ret2; exact ⟨rfl, hb⟩)
       | (exfalso; simp only [bne_iff_ne, ne_eq, bne_eq_false_iff_eq, beq_iff_eq, beq_eq_false_iff_ne, decide_eq_true_eq, decide_eq_false_iff_not] at *; omega))

set_option maxHeartbeats 2000000 in
set_option maxRecDepth 1000000 in
/-- **unicode/utf8.DecodeLastRune AT EVERY SLICE OF BYTES THAT IS NOT nil** (s: the bytes that p holds). -/
theorem decLastRow (s : ByteArray) (b off cap : Nat) (w : World) (hcap : s.size ≤ cap) (hp : ∀ j, j < s.size → w.cell? ⟨b, off + j, none⟩ = some (.int .u8 (s.get! j).toNat)) (hs : s.size ≤ 9223372036854775807) (hT : Lib.Utf8Tabs 2 3 w) :
    Calls Tryd.prog 110 #[.slice (some ⟨b, off, none⟩) s.size cap] w fun e w' => e = .returned (.tuple #[.int .i32 (Lib.decodeLastL s.data.toList).1, .int .i64 (Lib.decodeLastL s.data.toList).2]) ∧ Below w.heap.size w w' := by
  have hl : s.data.toList.length = s.size := (Lib.size_eq s).symm
  by_cases h0 : s.size = 0
  · have hnil : s.data.toList = [] := List.eq_nil_of_length_eq_zero (by omega)
    have hz : (s.size : Int) = 0 := by omega
    rw [hnil]
    clear hp
    go_enter Tryd.func110, Tryd.ntmps110
    go_wp2
    go_ret2
    exact ⟨rfl, Below.refl _ _⟩
  · obtain ⟨n, hn⟩ : ∃ n, s.size = n + 1 := ⟨s.size - 1, by omega⟩
    have g := fun (i : Nat) (h : i < s.size) => hp i h
    by_cases ha : (s.get! n).toNat < 128
    · -- an ASCII byte at the end
      have hne : s.data.toList ≠ [] := fun h => by rw [h] at hl; simp at hl; omega
      have hd : Lib.decodeLastL s.data.toList = ((s.get! n).toNat, 1) := by
        unfold Lib.decodeLastL
        rw [if_neg hne, hl, hn, Nat.add_sub_cancel, Lib.getD_get!, if_pos ha]
      rw [hd]
      obtain ⟨y1, hy⟩ : ∃ y1, s.get! n = y1 := ⟨_, rfl⟩
      rw [hy] at ha ⊢
      have hy1 : w.cell? ⟨b, off + n, none⟩ = some (.int .u8 y1.toNat) := by rw [← hy]; exact g n (by omega)
      clear hp g
      have haz : (y1.toNat : Int) < 128 := by omega
      rw [hn] at hs
      go_enter Tryd.func110, Tryd.ntmps110
      go_wp2
      go_ret2
      exact ⟨rfl, Below.refl _ _⟩
    · rw [Lib.decodeLastL_eq s (by omega) (by rw [hn, Nat.add_sub_cancel]; omega)]
      have hhi : 128 ≤ (s.get! n).toNat := by omega
      match n, hn, hhi with
      | 0, hn, hhi =>
        rw [Lib.lastStart_one _ (hl.trans hn)]
        exact LastB.one s b off cap w hcap hp hn hs hT _ (g 0 (by omega)) hhi
      | m + 1, hn, hhi =>
        cases hr2 : Lib.runeStart ((s.get! m).toNat : Int) with
        | true =>
          rw [Lib.lastStart_at2 _ m (hl.trans hn) (by rw [Lib.getD_get!, Lib.runeStartB_eq]; exact hr2)]
          exact LastB.at2 s b off cap w hcap hp m hn hs hT _ _ (g (m + 1) (by omega)) hhi (g m (by omega)) hr2
        | false =>
          match m, hn, hhi, hr2 with
          | 0, hn, hhi, hr2 =>
            rw [Lib.lastStart_two _ (hl.trans hn) (by rw [Lib.getD_get!, Lib.runeStartB_eq]; exact hr2)]
            exact LastB.two s b off cap w hcap hp hn hs hT _ _ (g 1 (by omega)) hhi (g 0 (by omega)) hr2
          | m + 1, hn, hhi, hr2 =>
            cases hr3 : Lib.runeStart ((s.get! m).toNat : Int) with
            | true =>
              rw [Lib.lastStart_at3 _ m (hl.trans hn) (by rw [Lib.getD_get!, Lib.runeStartB_eq]; exact hr2) (by rw [Lib.getD_get!, Lib.runeStartB_eq]; exact hr3)]
              exact LastB.at3 s b off cap w hcap hp m hn hs hT _ _ _ (g (m + 2) (by omega)) hhi (g (m + 1) (by omega)) hr2 (g m (by omega)) hr3
            | false =>
              match m, hn, hhi, hr2, hr3 with
              | 0, hn, hhi, hr2, hr3 =>
                rw [Lib.lastStart_three _ (hl.trans hn) (by rw [Lib.getD_get!, Lib.runeStartB_eq]; exact hr2) (by rw [Lib.getD_get!, Lib.runeStartB_eq]; exact hr3)]
                exact LastB.three s b off cap w hcap hp hn hs hT _ _ _ (g 2 (by omega)) hhi (g 1 (by omega)) hr2 (g 0 (by omega)) hr3
              | m + 1, hn, hhi, hr2, hr3 =>
                cases hr4 : Lib.runeStart ((s.get! m).toNat : Int) with
                | true =>
                  rw [Lib.lastStart_at4 _ m (hl.trans hn) (by rw [Lib.getD_get!, Lib.runeStartB_eq]; exact hr2) (by rw [Lib.getD_get!, Lib.runeStartB_eq]; exact hr3) (by rw [Lib.getD_get!, Lib.runeStartB_eq]; exact hr4)]
                  exact LastB.at4 s b off cap w hcap hp m hn hs hT _ _ _ _ (g (m + 3) (by omega)) hhi (g (m + 2) (by omega)) hr2 (g (m + 1) (by omega)) hr3 (g m (by omega)) hr4
                | false =>
                  match m, hn, hhi, hr2, hr3, hr4 with
                  | 0, hn, hhi, hr2, hr3, hr4 =>
                    rw [Lib.lastStart_four _ (hl.trans hn) (by rw [Lib.getD_get!, Lib.runeStartB_eq]; exact hr2) (by rw [Lib.getD_get!, Lib.runeStartB_eq]; exact hr3) (by rw [Lib.getD_get!, Lib.runeStartB_eq]; exact hr4)]
                    exact LastB.four s b off cap w hcap hp hn hs hT _ _ _ _ (g 3 (by omega)) hhi (g 2 (by omega)) hr2 (g 1 (by omega)) hr3 (g 0 (by omega)) hr4
                  | m + 1, hn, hhi, hr2, hr3, hr4 =>
                    rw [Lib.lastStart_far _ m (hl.trans hn) (by rw [Lib.getD_get!, Lib.runeStartB_eq]; exact hr2) (by rw [Lib.getD_get!, Lib.runeStartB_eq]; exact hr3) (by rw [Lib.getD_get!, Lib.runeStartB_eq]; exact hr4)]
                    exact LastB.far s b off cap w hcap hp m hn hs hT _ _ _ _ (g (m + 4) (by omega)) hhi (g (m + 3) (by omega)) hr2 (g (m + 2) (by omega)) hr3 (g (m + 1) (by omega)) hr4



end Go.Proofs.YthnbifkcbeldmaaDoor
