/- Lists of texts that a call makes: slices.Clone, the reference's SePieces and SeSame. -/
import Derived.Test.YthnbifkcbeldmaaDoorBreaks
import Derived.Test.YthnbifkcbeldmaaDoorShelf
namespace Go.Proofs.YthnbifkcbeldmaaDoor
open Go.RowKit Go.Lib
set_option linter.unusedVariables false

/-- a row of texts, read -/
def StrIn (w : World) (a : Option Addr) (l : List ByteArray) : Prop := ∀ i (h : i < l.length), ∃ g, a = some ⟨g, 0, none⟩ ∧ g < w.heap.size ∧ w.cell? ⟨g, i, none⟩ = some (.string l[i])
theorem StrIn.below {w w' : World} {a : Option Addr} {l : List ByteArray} (h : StrIn w a l) (hb : Below w.heap.size w w') : StrIn w' a l := fun i hi => by
  obtain ⟨g, e, hg, hc⟩ := h i hi
  exact ⟨g, e, Nat.lt_of_lt_of_le hg hb.size, by rw [hb.cell (p := ⟨g, i, none⟩) hg]; exact hc⟩
def RetStrs (w : World) (l : List ByteArray) (e : Ending) (w' : World) : Prop :=
  ∃ a cap, e = .returned (.slice a l.length cap) ∧ StrIn w' a l ∧ Below w.heap.size w w'
theorem own_strs {w : World} {base : Nat} {v : Value} {l : List ByteArray} (h : w.ownsRow base 9 1 v l.length (l.map Value.string)) : ∃ a cap, v = .slice a l.length cap ∧ StrIn w a l := by
  have hlt := h.lt
  have hc0 := @World.ownsRow.cells _ _ _ _ _ _ _ h
  rcases h.2 with ⟨rfl, hn⟩ | ⟨g, cap, cur, rfl, _, _, h1, _⟩
  · exact ⟨none, 0, by rw [hn], fun k hk => by omega⟩
  · refine ⟨_, cap, rfl, fun k hk => ⟨g, rfl, (hlt g rfl).2, ?_⟩⟩
    have := hc0 (g := g) rfl k (.string l[k]) (by simp [hk])
    rw [show (⟨g, 0, none⟩ : Addr).add k = ⟨g, k, none⟩ by unfold Addr.add; split <;> simp_all] at this
    exact this
theorem below2 {a b c : World} (h : Below a.heap.size a b) (k : Below b.heap.size b c) : Below a.heap.size a c := h.trans (k.mono h.size)

theorem cloneS (a : Option Addr) (cap : Nat) (l : List ByteArray) (w : World) (hl : l.length ≤ 4294967296) (hs : StrIn w a l) :
    Calls Tryd.prog 53 #[.slice a l.length cap] w (RetStrs w l) := by
  cases l with
  | nil =>
    cases a with
    | none =>
      refine (Tryd.slices_Clone_string_nil 0 cap w).mono ?_
      rintro e w' ⟨rfl, rfl⟩
      exact ⟨none, 0, rfl, fun i h => absurd h (Nat.not_lt_zero _), Below.refl _ _⟩
    | some x =>
      refine (Tryd.slices_Clone_string_zero x cap w).mono ?_
      rintro e w' ⟨v', rfl, hown, _, hb⟩
      obtain ⟨a2, cap2, rfl, h2⟩ := own_strs (l := []) hown
      exact ⟨a2, cap2, rfl, h2, hb⟩
  | cons x t =>
    obtain ⟨g, rfl, _, _⟩ := hs 0 (by simp)
    have hc : ∀ j, j < (x :: t).length → w.cell? ⟨g, 0 + j, none⟩ = some (.string ((x :: t).getD j ByteArray.empty)) := fun j hj => by
      obtain ⟨g', e, _, h⟩ := hs j hj
      injection e with e
      injection e with e
      subst e
      rw [Nat.zero_add, h, List.getD_eq_getElem?_getD, List.getElem?_eq_getElem hj]
      rfl
    refine (Tryd.slices_Clone_string g 0 (x :: t).length cap (x :: t) w (Nat.le_refl _) (by omega) hc).mono ?_
    rintro e w' ⟨v', rfl, hown, _, hb⟩
    rw [List.take_length] at hown
    obtain ⟨a2, cap2, rfl, h2⟩ := own_strs hown
    exact ⟨a2, cap2, rfl, h2, hb⟩

/-! ### Plain: pieces -/
def cutPieces (s : ByteArray) (L save : Nat) : List Nat → Nat → List ByteArray
  | [], fr => [s.extract fr s.size]
  | i :: r, fr => s.extract fr (i + save) :: cutPieces s L save r (i + L)
def okB (S L : Nat) : List Nat → Nat → Prop
  | [], fr => fr ≤ S
  | i :: r, fr => fr ≤ i ∧ i + L ≤ S ∧ okB S L r (i + L)
theorem cutPieces_length (s : ByteArray) (L save : Nat) : ∀ l fr, (cutPieces s L save l fr).length = l.length + 1
  | [], _ => rfl
  | i :: r, fr => by rw [cutPieces, List.length_cons, cutPieces_length s L save r, List.length_cons]
theorem okB_take (S L : Nat) : ∀ l fr n, okB S L l fr → okB S L (l.take n) fr
  | [], fr, n, h => by simpa using h
  | i :: r, fr, 0, h => by
    obtain ⟨h1, h2, h3⟩ := h
    show fr ≤ S
    omega
  | i :: r, fr, n + 1, h => ⟨h.1, h.2.1, okB_take S L r (i + L) n h.2.2⟩
theorem okB_cut (S L : Nat) (m : Int) (l : List Nat) (fr : Nat) (h : okB S L l fr) : okB S L (cutMost m l) fr := by
  unfold cutMost
  split
  · exact h
  · exact okB_take S L l fr _ h
theorem okB_mono (S L : Nat) {fr fr' : Nat} (h : fr' ≤ fr) : ∀ l, okB S L l fr → okB S L l fr'
  | [], hh => Nat.le_trans h hh
  | i :: r, hh => ⟨Nat.le_trans h hh.1, hh.2⟩
theorem okB_brk (s sep : List UInt8) (h1 : 1 ≤ sep.length) : ∀ n fr, s.length - fr ≤ n → fr ≤ s.length → okB s.length sep.length (brk s sep fr) fr
  | n, fr, hn, hf => by
    by_cases hr : fr + sep.length ≤ s.length
    · cases n with
      | zero => omega
      | succ n =>
        by_cases ho : occAt s sep fr = true
        · rw [brk_hit h1 hr ho]
          exact ⟨Nat.le_refl _, hr, okB_brk s sep h1 n _ (by omega) (by omega)⟩
        · rw [brk_miss h1 hr (by simpa using ho)]
          exact okB_mono _ _ (Nat.le_succ _) _ (okB_brk s sep h1 n (fr + 1) (by omega) (by omega))
    · rw [brk_end hr]; exact hf
theorem okB_tail (s : ByteArray) : ∀ n pos, s.size - pos ≤ n → pos ≤ s.size → okB s.size 0 (tailStarts s pos) pos
  | n, pos, hn, hp => by
    by_cases h : pos < s.size
    · cases n with
      | zero => omega
      | succ n =>
        have hw := decode_width_pos s pos h
        have hl := decode_w_le s pos h
        rw [tailStarts_step s pos h]
        exact ⟨Nat.le_refl _, by omega, okB_mono _ _ (by omega) _ (okB_tail s n _ (by omega) hl)⟩
    · rw [tailStarts_end s pos h]; exact hp
theorem okB_breaks (s sep : ByteArray) (m : Int) : okB s.size sep.size (breaks s sep m) 0 := by
  unfold breaks
  apply okB_cut
  split
  · rename_i h
    rw [h]
    have := okB_tail s s.size 0 (by omega) (Nat.zero_le _)
    rw [tailStarts_zero] at this
    cases hs : starts s with
    | nil => exact Nat.zero_le _
    | cons x r => rw [hs] at this; exact okB_mono _ _ (Nat.zero_le _) _ this.2.2
  · have := okB_brk s.data.toList sep.data.toList (by simp; omega) _ 0 (Nat.le_refl _) (Nat.zero_le _)
    simpa using this
theorem breaks_len (s sep : ByteArray) (m : Int) : (breaks s sep m).length ≤ s.size := by
  unfold breaks
  refine Nat.le_trans (cutMost_len _ _) ?_
  split
  · have := starts_le s; rw [List.length_tail]; omega
  · have := brk_len_le (s := s.data.toList) (sep := sep.data.toList) (by simp; omega) _ 0 (Nat.le_refl _)
    simpa using this
/-- the pieces of a text -/
def pieces (s sep : ByteArray) (n : Int) (keep : Bool) : List ByteArray :=
  if n = 0 ∨ (s.size = 0 ∧ sep.size = 0) then [] else cutPieces s sep.size (if keep then sep.size else 0) (breaks s sep (n - 1)) 0

def PcRel (s : ByteArray) (L save : Nat) (bs : List Nat) (w2 : World) (v fr i : Value) (wr : World) : Prop :=
  ∃ (k f : Nat) (d : List ByteArray), i = .int .i64 k ∧ k ≤ bs.length ∧ fr = .int .i64 f ∧ okB s.size L (bs.drop k) f ∧ f ≤ s.size ∧ d.length = k ∧ d ++ cutPieces s L save (bs.drop k) f = cutPieces s L save bs 0 ∧
    wr.ownsRow w2.heap.size 9 1 v d.length (d.map Value.string) ∧ Below w2.heap.size w2 wr
theorem pcRel_next {s : ByteArray} {L save : Nat} {bs : List Nat} {w2 wr w1 : World} {v v1 : Value} {k f : Nat} {d : List ByteArray} (hk : k < bs.length) (hok : okB s.size L (bs.drop k) f) (hd : d.length = k) (he : d ++ cutPieces s L save (bs.drop k) f = cutPieces s L save bs 0)
    (hB : Below w2.heap.size w2 wr) (hown : wr.ownsRow w2.heap.size 9 1 v d.length (d.map Value.string)) {o : Obj}
    (hown1 : w1.ownsRow w2.heap.size 9 1 v1 (d.length + 1) (d.map Value.string ++ [.string (s.extract f (bs[k] + save))])) (hg : (wr.alloc o).grownBy w1 v.ownBlock) :
    PcRel s L save bs w2 v1 (.int .i64 ((bs[k] + L : Nat) : Int)) (.int .i64 ((k + 1 : Nat) : Int)) w1 := by
  rw [List.drop_eq_getElem_cons hk] at hok he
  obtain ⟨h1, h2, h3⟩ := hok
  refine ⟨k + 1, bs[k] + L, d ++ [s.extract f (bs[k] + save)], rfl, by omega, rfl, h3, h2, by simp [hd], ?_, by simpa using hown1, below_app hB hown (Nat.le_refl _) hg⟩
  rw [← he, cutPieces]
  simp
set_option maxHeartbeats 3200000 in
theorem sePieces (s sep : ByteArray) (n : Int) (keep : Bool) (hs : s.size ≤ 4294967296) (hp : sep.size ≤ 4294967296) (hn1 : -9223372036854775808 < n) (hn2 : n ≤ 9223372036854775807) (w : World) :
    Calls Tryd.prog 35 #[.string s, .string sep, .int .i64 n, .bool keep] w (RetStrs w (pieces s sep n keep)) := by
  by_cases h0 : n = 0
  · have E := Lib.hid (show pieces s sep n keep = [] by unfold pieces; rw [if_pos (.inl h0)])
    have z0 : (n == 0) = true := by rw [h0]; rfl
    clear h0
    rw [E.out]
    go_enter Tryd.func35, Tryd.ntmps35
    go_wp2_with fail
    go_ret
    exact ⟨none, 0, rfl, fun i h => absurd h (Nat.not_lt_zero _), Below.refl _ _⟩
  have z0 : (n == 0) = false := beq_eq_false_iff_ne.2 h0
  by_cases he2 : s.size = 0 ∧ sep.size = 0
  · have E := Lib.hid (show pieces s sep n keep = [] by unfold pieces; rw [if_pos (.inr he2)])
    have e1 : s.toList.isEmpty = true := by rw [empty_of]; exact decide_eq_true he2.1
    have e2 : sep.toList.isEmpty = true := by rw [empty_of]; exact decide_eq_true he2.2
    clear h0 he2
    rw [E.out]
    go_enter Tryd.func35, Tryd.ntmps35
    go_wp2_with fail
    go_ret
    exact ⟨none, 0, rfl, fun i h => absurd h (Nat.not_lt_zero _), Below.refl _ _⟩
  have hee : s.toList.isEmpty = false ∨ (s.toList.isEmpty = true ∧ sep.toList.isEmpty = false) := by
    rw [empty_of, empty_of]
    by_cases h : s.size = 0
    · exact .inr ⟨decide_eq_true h, decide_eq_false (fun h' => he2 ⟨h, h'⟩)⟩
    · exact .inl (decide_eq_false h)
  have E := Lib.hid (show pieces s sep n keep = cutPieces s sep.size (if keep then sep.size else 0) (breaks s sep (n - 1)) 0 by unfold pieces; rw [if_neg (by simp only [h0, false_or]; exact he2)])
  have HOK := Lib.hid (okB_breaks s sep (n - 1))
  have hbl := breaks_len s sep (n - 1)
  clear h0 he2
  rw [E.out]
  clear E
  obtain ⟨save, hsv⟩ : ∃ save, (if keep then sep.size else 0) = save := ⟨_, rfl⟩
  rw [hsv]
  have SV : keep = false ∧ save = 0 ∨ keep = true ∧ save = sep.size := by cases keep <;> simp_all
  clear hsv
  rcases SV with ⟨rfl, sv⟩ | ⟨rfl, sv⟩
  all_goals
    have SV := Lib.hid sv
    clear sv
    rcases hee with e1 | ⟨e1, e2⟩
    all_goals
      go_enter Tryd.func35, Tryd.ntmps35
      go_wp2_with (go_at_call 51; refine (seBreaks s sep (n - 1) hs hp _).mono ?_; rintro e w2 ⟨v2, rfl, hown2, hB2⟩; obtain ⟨a2, cap2, rfl, hc2, hr2⟩ := own_ints hown2; have HR := Lib.hid hr2; clear hr2)
      generalize breaks s sep (n - 1) = bs at *
      go_loopw [9, 10, 30] (PcRel s sep.size save bs w2) (fun _ _ i _ => bs.length - (RowKit.intOf i).toNat)
      case atStart => exact ⟨0, 0, [], rfl, Nat.zero_le _, rfl, HOK.out, Nat.zero_le _, rfl, rfl, World.ownsRow_nil _ _ _ _, Below.refl _ _⟩
      case round =>
        obtain ⟨k, f, d, rfl, hkl, rfl, hok, hfs, hd, he, hown, hB⟩ := hrel
        by_cases hk : k < bs.length
        · obtain ⟨g, rfl, hg, hcell⟩ := HR.out k hk
          have hcell2 : wr.cell? ⟨g, k, none⟩ = some (.int .i64 (bs[k] : Int)) := by rw [hB.cell (p := ⟨g, k, none⟩) hg]; exact hcell
          have hkI : (k : Int) < bs.length := by omega
          have hok2 : f ≤ bs[k] ∧ bs[k] + sep.size ≤ s.size := by
            have := hok; rw [List.drop_eq_getElem_cons hk] at this; exact ⟨this.1, this.2.1⟩
          obtain ⟨o1, o2⟩ := hok2
          have j1 : (f : Int) ≤ bs[k] := by omega
          have j2 : (bs[k] : Int) ≤ s.size := by omega
          have j3 : (bs[k] : Int) + sep.size ≤ s.size := by omega
          have j4 : (f : Int) ≤ bs[k] + sep.size := by omega
          have HD := Lib.hid hd
          have HE := Lib.hid he
          have HO := Lib.hid hok
          clear hcell hd he hok
          go_wp2_with (at_builtin; refine app_str rfl _ _ rfl _ w2.heap.size _ _ _ _ (by exact rfl) (by exact rfl) hown (by have := HD.out; omega) hB.size ?_; intro v1 w1 hown1 hg1)
          go_roundw
          case rel => exact pcRel_next hk HO.out HD.out HE.out hB hown (by rw [SV.out]; exact hown1) hg1
          case measure => simp [RowKit.intOf]; omega
        · have hkI : ¬ (k : Int) < bs.length := by omega
          have hke : bs.drop k = [] := List.drop_eq_nil_of_le (by omega)
          rw [hke, cutPieces] at he
          have HE := Lib.hid he
          have HD := Lib.hid hd
          clear he hok hd hke
          go_wp2_with (at_builtin; refine app_str rfl _ _ rfl _ w2.heap.size _ _ _ _ (by exact rfl) (by exact rfl) hown (by have := HD.out; omega) hB.size ?_; intro v1 w1 hown1 hg1)
          go_ret
          have hB1 := below_app hB hown (Nat.le_refl _) hg1
          have hown2 : w1.ownsRow w2.heap.size 9 1 v1 (d ++ [s.extract f s.size]).length ((d ++ [s.extract f s.size]).map Value.string) := by simpa using hown1
          rw [HE.out] at hown2
          obtain ⟨a3, cap3, rfl, h3⟩ := own_strs hown2
          exact ⟨a3, cap3, rfl, h3, below2 hB2 hB1⟩
end Go.Proofs.YthnbifkcbeldmaaDoor
