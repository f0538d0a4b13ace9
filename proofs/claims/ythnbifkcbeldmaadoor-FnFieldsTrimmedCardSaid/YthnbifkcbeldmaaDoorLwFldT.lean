/- FnFieldsTrimmed: impl.StrTrimSpace; the law. -/
import Derived.Test.YthnbifkcbeldmaaDoorFldTrim
import Derived.Test.YthnbifkcbeldmaaDoorTrimSp
import Derived.Test.YthnbifkcbeldmaaDoorLwFldS
namespace Go.Proofs.YthnbifkcbeldmaaDoor
open Go Go.RowKit Go.Lib Go.Proofs
set_option linter.unusedVariables false
variable {T oT R oR : Nat}

theorem map_inj' {α β : Type} {f : α → β} (hf : ∀ a b, f a = f b → a = b) : ∀ {l m : List α}, l.map f = m.map f → l = m
  | [], [], _ => rfl
  | [], _ :: _, h => by cases h
  | _ :: _, [], h => by cases h
  | a :: l, b :: m, h => by
    simp only [List.map_cons, List.cons.injEq] at h
    rw [hf a b h.1, map_inj' hf h.2]
theorem fields_trim_eq (s : ByteArray) : goFieldsP isSpaceR ⟨(trimSpaceD s.data.toList).toArray⟩ = goFieldsP isSpaceR s := by
  refine map_inj' (f := Value.string) (fun a b h => by injection h) ?_
  rw [goFields_values, goFields_values]
  have : ((⟨(trimSpaceD s.data.toList).toArray⟩ : ByteArray)).data.toList = trimSpaceD s.data.toList := rfl
  rw [this, fields_trimmed]
theorem trim_len (s : ByteArray) : (⟨(trimSpaceD s.data.toList).toArray⟩ : ByteArray).size ≤ s.size := by
  have h1 : ∀ (f : Nat) (l : List UInt8), (trimRightD f l).length ≤ l.length := by
    intro f
    induction f with
    | zero => intro l; exact Nat.le_refl _
    | succ f ih =>
      intro l
      unfold trimRightD
      split
      · simp
      · split
        · exact Nat.le_trans (ih _) (by rw [List.length_take]; omega)
        · exact Nat.le_refl _
  have h2 := h1 s.data.toList.length (trimLeftD s.data.toList.length s.data.toList)
  have h3 := trimLeftD_le s.data.toList.length s.data.toList
  show (trimSpaceD s.data.toList).toArray.size ≤ _
  rw [List.size_toArray, Lib.size_eq]
  unfold trimSpaceD
  omega
theorem implTrimSpace (s : ByteArray) (w : World) (hs : s.size ≤ 2147483647) (hF : FT 0 2 3 1 T oT R oR w) :
    Calls Tryd.prog 33 #[.string s] w fun e w' => e = .returned (.string ⟨(trimSpaceD s.data.toList).toArray⟩) ∧ Below w.heap.size w w' := by
  have H := Lib.hid (g_TrimSpace_any s w (by omega) hF.sp hF.u8 hF.white)
  clear hF
  generalize (⟨(trimSpaceD s.data.toList).toArray⟩ : ByteArray) = P at *
  go_enter Tryd.func33, Tryd.ntmps33
  go_wp2_with (go_at_call 61; refine H.out.mono ?_; rintro e w' ⟨rfl, hB⟩)
  go_ret
  exact ⟨rfl, hB⟩
set_option maxHeartbeats 1600000 in
theorem walk_FnFieldsTrimmed (a0 : ByteArray) (w : World) (w0 : a0.size ≤ maxLen) (hF : FT 0 2 3 1 T oT R oR w) :
    Calls Tryd.prog 11 #[.string a0] w fun e w' => e = .returned (.bool true) ∧ Below w.heap.size w w' := by
  unfold maxLen at w0
  by_cases h0 : 2147483647 < a0.size
  · clear hF
    go_enter Tryd.func11, Tryd.ntmps11
    go_wp2
    go_ret
    exact ⟨rfl, Below.refl _ _⟩
  have HF := Lib.hid hF
  have hsz := trim_len a0
  have H0 := Lib.hid (implTrimSpace a0 w (by omega) hF)
  have H1 : Hid (∀ W, Below w.heap.size w W → Calls Tryd.prog 26 #[.string ⟨(trimSpaceD a0.data.toList).toArray⟩] W (RetStrs W (goFieldsP isSpaceR a0))) := Lib.hid (fun W hB => by
    rw [← fields_trim_eq]
    exact implFields _ W (by omega) (HF.out.below hB))
  have H2 : Hid (∀ W, Below w.heap.size w W → Calls Tryd.prog 26 #[.string a0] W (RetStrs W (goFieldsP isSpaceR a0))) := Lib.hid (fun W hB => implFields a0 W (by omega) (HF.out.below hB))
  have H3 : Hid (∀ W, Below w.heap.size w W → Calls Tryd.prog 26 #[.string ⟨#[97, 32, 98]⟩] W (RetStrs W (goFieldsP isSpaceR ⟨#[97, 32, 98]⟩))) := Lib.hid (fun W hB => implFields ⟨#[97, 32, 98]⟩ W (by decide) (HF.out.below hB))
  have hl : (goFieldsP isSpaceR a0).length ≤ 4294967296 := by have := fields_len isSpaceR a0; omega
  have HA := Lib.hid fields_ab
  clear hF hsz
  generalize goFieldsP isSpaceR a0 = P at *
  generalize (⟨(trimSpaceD a0.data.toList).toArray⟩ : ByteArray) = t at *
  go_enter Tryd.func11, Tryd.ntmps11
  go_wp2_with (first
    | (go_at_call 33; refine H0.out.mono ?_; rintro e w1 ⟨rfl, hB1⟩)
    | (go_at_call 24; refine (seSame a2 a3 cap2 cap3 P w3 hl (hin2.below hB3) hin3).mono ?_; rintro e w4 ⟨rfl, rfl⟩)
    | (go_at_call 26; have hB3' := hB3; refine (H3.out w3 (below2 hB2 hB3)).mono ?_; rintro e w5 ⟨a5, cap5, rfl, hin5, hB5⟩; rw [HA.out])
    | (go_at_call 26; have hB2' := hB2; refine (H2.out w2 hB2).mono ?_; rintro e w3 ⟨a3, cap3, rfl, hin3, hB3⟩)
    | (go_at_call 26; refine (H1.out w1 hB1).mono ?_; rintro e w2 ⟨a2, cap2, rfl, hin2, hB2a⟩; have hB2 := below2 hB1 hB2a))
  all_goals (go_ret; exact ⟨rfl, below2 (below2 hB2 hB3) hB5⟩)
end Go.Proofs.YthnbifkcbeldmaaDoor
