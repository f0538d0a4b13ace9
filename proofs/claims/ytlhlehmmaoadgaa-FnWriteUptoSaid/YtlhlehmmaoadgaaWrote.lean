/- (*Replacer).WriteString into a sink, impl.written and impl.Write. -/
import Derived.Test.YtlhlehmmaoadgaaMade
import Derived.Test.YtlhlehmmaoadgaaGenW
import Derived.Test.YtlhlehmmaoadgaaSglW
import Derived.Test.YtlhlehmmaoadgaaByteW
import Derived.Test.YtlhlehmmaoadgaaBsW
namespace Go.Proofs.Ytlhlehmmaoadgaa
open Go.RowKit Go.Lib
set_option linter.unusedVariables false
def KSgl (w : World) (B rb : Nat) (l : List ByteArray) : Prop := ∃ p q, l = [p, q] ∧ 1 < p.size ∧ SglAt w B rb p q
def KByt (w : World) (rb : Nat) (l : List ByteArray) : Prop := ∃ f, TabAt w rb f ∧ ∀ t, rep (prs l) true t = t.map f
def KBys (w : World) (rb : Nat) (l : List ByteArray) : Prop := ∃ F a ks, BsAt w rb F a ks ∧ ∀ t, rep (prs l) true t = outF F t
theorem RplAt.kinds {w : World} {B n : Nat} {l : List ByteArray} {v : Value} (h : RplAt w B l n v) : ∀ (t rb : Nat), v = .iface t (.pointer (some ⟨rb, 0, none⟩)) →
    (t = 53 → KSgl w B rb l) ∧ (t = 55 → GenAt w B rb l n) ∧ (t = 59 → KByt w rb l) ∧ (t = 63 → KBys w rb l) := by
  intro t rb hv
  cases h with
  | single hl hp h =>
    injection hv with h1 h2
    injection h2 with h2
    injection h2 with h2
    injection h2 with h2
    subst h1 h2
    exact ⟨fun _ => ⟨_, _, hl, hp, h⟩, fun e => absurd e (by decide), fun e => absurd e (by decide), fun e => absurd e (by decide)⟩
  | generic h =>
    injection hv with h1 h2
    injection h2 with h2
    injection h2 with h2
    injection h2 with h2
    subst h1 h2
    exact ⟨fun e => absurd e (by decide), fun _ => h, fun e => absurd e (by decide), fun e => absurd e (by decide)⟩
  | byte hr h hf =>
    injection hv with h1 h2
    injection h2 with h2
    injection h2 with h2
    injection h2 with h2
    subst h1 h2
    exact ⟨fun e => absurd e (by decide), fun e => absurd e (by decide), fun _ => ⟨_, h, hf⟩, fun e => absurd e (by decide)⟩
  | bytes h hf hF =>
    injection hv with h1 h2
    injection h2 with h2
    injection h2 with h2
    injection h2 with h2
    subst h1 h2
    exact ⟨fun e => absurd e (by decide), fun e => absurd e (by decide), fun e => absurd e (by decide), fun _ => ⟨_, _, _, h w (Below.refl _ _), hf⟩⟩
theorem wAhead (t : TypeId) (rb : Nat) (w : World) (ht : t = 53 ∨ t = 55 ∨ t = 59 ∨ t = 63) : (nilAhead 220 t (.pointer (some ⟨rb, 0, none⟩)) "WriteString").run Try.prog w = .ok (some false) w := by
  rcases ht with rfl | rfl | rfl | rfl <;> kernel_rfl
theorem wSingle (a : Addr) (w : World) : (method 220 53 (.pointer (some a)) "WriteString").run Try.prog w = .ok (41, .pointer (some a)) w := by kernel_rfl
theorem wGeneric (a : Addr) (w : World) : (method 220 55 (.pointer (some a)) "WriteString").run Try.prog w = .ok (52, .pointer (some a)) w := by kernel_rfl
theorem wByte (a : Addr) (w : World) : (method 220 59 (.pointer (some a)) "WriteString").run Try.prog w = .ok (55, .pointer (some a)) w := by kernel_rfl
theorem wBytes (a : Addr) (w : World) : (method 220 63 (.pointer (some a)) "WriteString").run Try.prog w = .ok (57, .pointer (some a)) w := by kernel_rfl
set_option maxHeartbeats 1600000 in
set_option maxRecDepth 100000 in
theorem replWrite (lo rr n q : Nat) (l : List ByteArray) (s : ByteArray) (w : World) (hN : NewAt w lo rr l n) (hq : q < lo) (hA : Snk w w.heap.size q []) (hl : l.length = 2 * n) (hk : ∀ s ∈ l, s.size ≤ 2147483647) (hs : s.size ≤ 1073741824)
    (hout : (rep (prs l) true s.data.toList).length ≤ 35184372088832) :
    Calls Try.prog 12 #[.pointer (some ⟨rr, 0, none⟩), .iface 31 (.pointer (some ⟨q, 0, none⟩)), .string s] w (WsPost w w.heap.size q (rep (prs l) true s.data.toList)) := by
  obtain ⟨_, _, v, hc, hR⟩ := hN
  obtain ⟨t, rb, rfl⟩ := (hR w (fun _ _ _ => rfl)).form
  have HK := Lib.hid (fun w2 ha => (hR w2 ha).kinds t rb rfl)
  have hw : t = 53 ∨ t = 55 ∨ t = 59 ∨ t = 63 := by
    generalize hv : Value.iface t (.pointer (some ⟨rb, 0, none⟩)) = v at hR
    have h0 := hR w (fun _ _ _ => rfl)
    cases h0 <;> (injection hv with h1 h2; subst h1; simp)
  clear hR
  rcases hw with rfl | rfl | rfl | rfl
  · have hm := wSingle
    obtain ⟨p, v, rfl, hp, _⟩ := (HK.out w (fun _ _ _ => rfl)).1 rfl
    have hkp := hk p (by simp)
    have hkv := hk v (by simp)
    have HS := Lib.hid (sglWriteSnk rb w.heap.size q lo p v s w hq (by omega) (by omega) (by omega) (by omega) (fun w2 ha => by
      obtain ⟨p2, v2, e, _, h⟩ := (HK.out w2 ha).1 rfl
      injection e with e1 e2
      injection e2 with e2 e3
      subst e1 e2
      exact h) hA (Nat.le_refl _) hout)
    clear hA hout HK
    go_enter Try.func12, Try.ntmps12
    go_wp2_with (go_at_call 41; refine HS.out.mono ?_; rintro e w1 ⟨rfl, hB⟩)
    go_ret2
    exact ⟨rfl, hB⟩
  · have hm := wGeneric
    have HS := Lib.hid (genWriteSnk rb w.heap.size q n l s [] w lo hq (fun w2 ha => (HK.out w2 ha).2.1 rfl) hA (Nat.le_refl _) (by omega) hl hk (by simp only [List.length_nil, Nat.zero_add]; omega))
    clear hA hout HK
    go_enter Try.func12, Try.ntmps12
    go_wp2_with (go_at_call 52; refine HS.out.mono ?_; rintro e w1 ⟨rfl, hB⟩)
    go_ret2
    exact ⟨rfl, hB⟩
  · have hm := wByte
    have HS := Lib.hid (byteWriteSnk rb w.heap.size q lo l s w hq (by omega) (fun w2 ha => (HK.out w2 ha).2.2.1 rfl) hA (Nat.le_refl _) hout)
    clear hA hout HK
    go_enter Try.func12, Try.ntmps12
    go_wp2_with (go_at_call 55; refine HS.out.mono ?_; rintro e w1 ⟨rfl, hB⟩)
    go_ret2
    exact ⟨rfl, hB⟩
  · have hm := wBytes
    have HS := Lib.hid (bytesWriteSnk rb w.heap.size q lo l s w hq (by omega) (fun w2 ha => (HK.out w2 ha).2.2.2 rfl) hA (Nat.le_refl _) hout)
    clear hA hout HK
    go_enter Try.func12, Try.ntmps12
    go_wp2_with (go_at_call 57; refine HS.out.mono ?_; rintro e w1 ⟨rfl, hB⟩)
    go_ret2
    exact ⟨rfl, hB⟩
end Go.Proofs.Ytlhlehmmaoadgaa
