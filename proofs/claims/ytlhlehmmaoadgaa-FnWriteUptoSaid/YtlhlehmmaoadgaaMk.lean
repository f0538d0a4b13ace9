/- (*Replacer).build: which replacer some pairs get; the single and the generic one. -/
import Derived.Test.YtlhlehmmaoadgaaSgl
import Derived.Test.YtlhlehmmaoadgaaLawGen
import Derived.Test.YtlhlehmmaoadgaaBsRepl
import Derived.Deep.RegionHeld3
namespace Go.Proofs.Ytlhlehmmaoadgaa
open Go.RowKit Go.Lib
set_option linter.unusedVariables false

/-- bytes that become bytes -/
def fB (l : Prs) (c : UInt8) : UInt8 := match l.find? (fun p => p.1 == [c]) with | some p => p.2.headD c | none => c
/-- bytes that become texts -/
def fS (l : Prs) (c : UInt8) : Option (List UInt8) := (l.find? (fun p => p.1 == [c])).map (·.2)
theorem fB_cons (o : UInt8) (n : List UInt8) (r : Prs) (c : UInt8) : fB (([o], n) :: r) c = if o = c then n.headD c else fB r c := by
  unfold fB
  by_cases h : o = c
  · subst h; simp
  · rw [List.find?_cons_of_neg (by simp [h]), if_neg h]
theorem fS_cons (o : UInt8) (n : List UInt8) (r : Prs) (c : UInt8) : fS (([o], n) :: r) c = if o = c then some n else fS r c := by
  unfold fS
  by_cases h : o = c
  · subst h; simp
  · rw [List.find?_cons_of_neg (by simp [h]), if_neg h]
theorem tab_fS (l : Prs) (c : UInt8) : tab l c = tabF (fS l) c := by
  unfold tab tabF fS
  cases l.find? (fun p => p.1 == [c]) <;> rfl
theorem rep_fS {l : Prs} (h1 : ∀ p ∈ l, p.1.length = 1) (t : List UInt8) : rep l true t = outF (fS l) t := by
  rw [rep_bytes h1]
  unfold outF
  congr 1
  funext c
  exact tab_fS l c
theorem rep_fB {l : Prs} (h1 : ∀ p ∈ l, p.1.length = 1) (h2 : ∀ p ∈ l, p.2.length = 1) (t : List UInt8) : rep l true t = t.map (fB l) := by
  rw [rep_bytes h1]
  have : ∀ c, tab l c = [fB l c] := fun c => by
    unfold tab fB
    cases hf : l.find? (fun p => p.1 == [c]) with
    | none => rfl
    | some p =>
      obtain ⟨x, hx⟩ := List.length_eq_one_iff.1 (h2 p (List.mem_of_find?_eq_some hf))
      simp [hx]
  induction t with
  | nil => rfl
  | cons c r ih => rw [List.flatMap_cons, this, ih, List.map_cons]; rfl
/-- the olds of a list of texts -/
def OldsOne (l : List ByteArray) (k : Nat) : Prop := ∀ j, j < k → (l.getD (2 * j) ⟨#[]⟩).size = 1
def NewsOne (l : List ByteArray) (k : Nat) : Prop := ∀ j, j < k → (l.getD (2 * j + 1) ⟨#[]⟩).size = 1
theorem olds_prs {l : List ByteArray} {n : Nat} (hl : l.length = 2 * n) (h : OldsOne l n) : ∀ p ∈ prs l, p.1.length = 1 := fun p hp => by
  obtain ⟨i, hi, rfl⟩ := prs_mem l p hp
  have := h i (by omega)
  show (l.getD (2 * i) ⟨#[]⟩).data.toList.length = 1
  exact Eq.trans Array.length_toList this
theorem news_prs {l : List ByteArray} {n : Nat} (hl : l.length = 2 * n) (h : NewsOne l n) : ∀ p ∈ prs l, p.2.length = 1 := fun p hp => by
  obtain ⟨i, hi, rfl⟩ := prs_mem l p hp
  have := h i (by omega)
  show (l.getD (2 * i + 1) ⟨#[]⟩).data.toList.length = 1
  exact Eq.trans Array.length_toList this
theorem olds_ways (l : List ByteArray) (n : Nat) : OldsOne l n ∨ ∃ j, j < n ∧ OldsOne l j ∧ (l.getD (2 * j) ⟨#[]⟩).size ≠ 1 := by
  induction n with
  | zero => exact .inl fun j h => absurd h (Nat.not_lt_zero _)
  | succ n ih =>
    rcases ih with h | ⟨j, hj, h1, h2⟩
    · by_cases hc : (l.getD (2 * n) ⟨#[]⟩).size = 1
      · refine .inl fun j hj => ?_
        by_cases e : j = n
        · subst e; exact hc
        · exact h j (by omega)
      · exact .inr ⟨n, by omega, h, hc⟩
    · exact .inr ⟨j, by omega, h1, h2⟩

/-- a replacer that has been made, below a block: whichever kind, it makes 'rep' -/
inductive RplAt (w : World) (B : Nat) (l : List ByteArray) (n : Nat) : Value → Prop
  | single {p q : ByteArray} {rb : Nat} (hl : l = [p, q]) (hp : 1 < p.size) (h : SglAt w B rb p q) : RplAt w B l n (.iface 53 (.pointer (some ⟨rb, 0, none⟩)))
  | generic {rb : Nat} (h : GenAt w B rb l n) : RplAt w B l n (.iface 55 (.pointer (some ⟨rb, 0, none⟩)))
  | byte {rb : Nat} {f : UInt8 → UInt8} (hr : rb < B) (h : TabAt w rb f) (hf : ∀ t, rep (prs l) true t = t.map f) : RplAt w B l n (.iface 59 (.pointer (some ⟨rb, 0, none⟩)))
  | bytes {rb : Nat} {F : UInt8 → Option (List UInt8)} {a : Option Addr} {ks : List UInt8} (h : ∀ w', Below B w w' → BsAt w' rb F a ks) (hf : ∀ t, rep (prs l) true t = outF F t) (hF : ∀ c t, F c = some t → ∃ j, 2 * j + 1 < l.length ∧ t = (l.getD (2 * j + 1) ⟨#[]⟩).data.toList) : RplAt w B l n (.iface 63 (.pointer (some ⟨rb, 0, none⟩)))
theorem RplAt.lower {w w' : World} {B n : Nat} {l : List ByteArray} {v : Value} (h : RplAt w B l n v) (hb : Below B w w') : RplAt w' B l n v := by
  cases h with
  | single hl hp h => exact .single hl hp (h.lower hb)
  | generic h => exact .generic (h.lower hb)
  | byte hr h hf => exact .byte hr (h.below hb hr) hf
  | bytes h hf hF => exact .bytes (fun w2 hb2 => h w2 (hb.trans hb2)) hf hF
def MkPost (w : World) (l : List ByteArray) (n : Nat) (e : Ending) (w' : World) : Prop := ∃ v, e = .returned v ∧ (∀ w2, AgreeOn w.heap.size w'.heap.size w' w2 → RplAt w2 w'.heap.size l n v) ∧ Below w.heap.size w w'

set_option maxHeartbeats 1600000 in
set_option maxRecDepth 100000 in
theorem build_single (rr : Nat) (x : Addr) (cap : Nat) (p q : ByteArray) (w : World) (hc : w.cell? ⟨rr, 1, none⟩ = some (.slice (some x) 2 cap)) (h0 : w.cell? x = some (.string p)) (h1 : w.cell? ⟨x.block, x.off + 1, none⟩ = some (.string q)) (hp : 1 < p.size) (hps : p.size < 4294967296) :
    Calls Try.prog 17 #[.pointer (some ⟨rr, 0, none⟩)] w (MkPost w [p, q] 1) := by
  have hp1 : (1 : Int) < p.size := by omega
  have hx := World.block_lt_of_cell? w _ h0
  go_enter Try.func17, Try.ntmps17
  go_wp2_with fail
  go_region_held3 (fun w' => w'.cell? x = some (.string p) ∧ w'.cell? ⟨x.block, x.off + 1, none⟩ = some (.string q)) (go_keep) ((go_at_call 18; refine (makeSingle p q (by omega) hps _).mono ?_; rintro e w1 ⟨rb, rfl, hS, hB⟩; have h0' := (hB.cell (p := x) hx).trans h0; have h1' := (hB.cell (p := ⟨x.block, x.off + 1, none⟩) hx).trans h1))
  go_wp2_with fail
  go_ret
  exact ⟨_, rfl, fun w2 ha => .single rfl hp (hS w2 ha), (Below.drew (Below.refl _ w)).trans hB⟩
set_option maxHeartbeats 3200000 in
set_option maxRecDepth 100000 in
theorem build_generic (rr n cap : Nat) (a : Option Addr) (l : List ByteArray) (w : World) (hc : w.cell? ⟨rr, 1, none⟩ = some (.slice a (2 * n) cap)) (hl : l.length = 2 * n) (hs : StrsAt w w.heap.size a l) (hn : 2 * n ≤ 2147483647) (hk : ∀ s ∈ l, s.size ≤ 2147483647)
    (hno : n = 1 → (l.getD 0 ⟨#[]⟩).size ≤ 1) (j0 : Nat) (hj0 : j0 < n) (hone : OldsOne l j0) (hne : (l.getD (2 * j0) ⟨#[]⟩).size ≠ 1) :
    Calls Try.prog 17 #[.pointer (some ⟨rr, 0, none⟩)] w (MkPost w l n) := by
  have HS := Lib.hid hs
  have HL := Lib.hid hl
  have HK := Lib.hid hk
  have HONE := Lib.hid hone
  have h0l : 0 < l.length := by omega
  obtain ⟨x, rfl, hx, hc0⟩ := hs 0 h0l
  rw [show x.add 0 = x by unfold Addr.add; split <;> simp_all] at hc0
  have hne0 : l[0].size ≤ 2147483647 := hk _ (List.getElem_mem _)
  have hno' : n = 1 → l[0].size ≤ 1 := fun h => by have := hno h; simpa [List.getD, h0l] using this
  have hn1 : ((2 * (n : Int)) == 2) = false ∨ (((2 * (n : Int)) == 2) = true ∧ ¬ (1 : Int) < l[0].size) := by
    by_cases e : n = 1
    · right
      exact ⟨by rw [e]; rfl, by have := hno' e; omega⟩
    · exact .inl (beq_eq_false_iff_ne.2 (by omega))
  have HN1 := Lib.hid hn1
  generalize l[0] = z0 at hc0 HN1
  have HNE := Lib.hid hne
  clear hs hl hk hone hne0 hno hno' hn1 hne
  go_enter Try.func17, Try.ntmps17
  rcases HN1.out with h1 | ⟨h1, h2⟩
  all_goals
    go_wp2_with fail
    go_loop [4, 5] (fun v4 v5 => ∃ (j : Nat) (b : Bool), j ≤ j0 ∧ v5 = .int .i64 (2 * (j : Int)) ∧ v4 = .bool b) (fun _ v5 => 2 * n - (RowKit.intOf v5).toNat)
    case atStart => exact ⟨0, true, Nat.zero_le _, rfl, rfl⟩
    case round =>
      obtain ⟨j, b, hj, rfl, rfl⟩ := hrel
      have hjl : 2 * j < l.length := by have := HL.out; omega
      have hjl2 : 2 * j + 1 < l.length := by have := HL.out; omega
      obtain ⟨y, hy, _, hcy⟩ := HS.out (2 * j) hjl
      obtain rfl := Option.some.inj hy
      obtain ⟨y', hy', _, hcy'⟩ := HS.out (2 * j + 1) hjl2
      obtain rfl := Option.some.inj hy'
      rw [Addr.add_succ'] at hcy'
      have e1 : 2 * (j : Int) < 2 * (n : Int) := by omega
      have e2 : 2 * (j : Int) + 1 < 2 * (n : Int) := by omega
      have hz1 : l[2 * j].size ≤ 2147483647 := HK.out _ (List.getElem_mem _)
      have hz2 : l[2 * j + 1].size ≤ 2147483647 := HK.out _ (List.getElem_mem _)
      by_cases e : j = j0
      · subst e
        have hd : ((l[2 * j].size : Int) != 1) = true := by
          have h3 := HNE.out
          rw [show l.getD (2 * j) ⟨#[]⟩ = l[2 * j] by simp [List.getD, hjl]] at h3
          exact bne_iff_ne.2 (by omega)
        generalize l[2 * j] = k1 at *
        clear hcy' hy hy'
        go_wp2_with (go_at_call 19; refine (makeGeneric _ n cap l _ HL.out HS.out (by omega) (fun s hs => by have := HK.out s hs; omega)).mono ?_; intro e w1 hmade; obtain ⟨rfl, hG, hB⟩ := gen_made hmade)
        go_ret
        exact ⟨_, rfl, fun w2 ha => .generic (hG w2 ha), hB⟩
      · have hd : ((l[2 * j].size : Int) != 1) = false := by
          have h3 := HONE.out j (by omega)
          rw [show l.getD (2 * j) ⟨#[]⟩ = l[2 * j] by simp [List.getD, hjl]] at h3
          rw [h3]; rfl
        generalize l[2 * j] = k1 at *
        generalize l[2 * j + 1] = k2 at *
        clear hy hy'
        by_cases hv : ((k2.size : Int) != 1) = true
        · go_wp2_with fail
          go_round
          case rel => exact ⟨j + 1, false, by omega, by go_num, rfl⟩
          case measure => simp [RowKit.intOf]; omega
        · have hv' : ((k2.size : Int) != 1) = false := by simpa using hv
          clear hv
          go_wp2_with fail
          go_round
          case rel => exact ⟨j + 1, b, by omega, by go_num, rfl⟩
          case measure => simp [RowKit.intOf]; omega
end Go.Proofs.Ytlhlehmmaoadgaa
