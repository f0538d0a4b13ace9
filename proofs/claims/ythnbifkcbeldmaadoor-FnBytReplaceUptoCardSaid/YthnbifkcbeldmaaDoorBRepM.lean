/- The law FnBytReplace in its second form. -/
import Derived.Test.YthnbifkcbeldmaaDoorBRepI
import Derived.Test.YthnbifkcbeldmaaDoorRegKd
namespace Go.Proofs.YthnbifkcbeldmaaDoor
open Go Go.RowKit Go.Lib Go.Shelf
set_option linter.unusedVariables false
def rpK (a0 a1 a2 R : ByteArray) (a3 : Int) : Nat → Kd
  | 8 => .tru
  | 22 => .str a0
  | 23 => .row a0
  | 24 => .str a1
  | 25 => .row a1
  | 26 => .str a2
  | 27 => .row a2
  | 28 => .int a3
  | 29 => .ret R
  | 30 => .str R
  | 31 => .str a0
  | 32 => .str a1
  | 33 => .str a2
  | 34 => .int a3
  | 35 => .str R
  | 36 => .tru
  | 37 => .tru
  | 38 => .cst C1
  | 39 => .row C1
  | 40 => .cst C2
  | 41 => .row C2
  | 42 => .cst C3
  | 43 => .row C3
  | 44 => .ret CR
  | 45 => .str CR
  | 46 => .tru
  | 47 => .tru
  | _ => .any
set_option maxHeartbeats 3200000 in
set_option maxRecDepth 100000 in
theorem walk_FnBytReplace (a0 a1 a2 : ByteArray) (a3 : Int) (w : World) (w0 : a0.size ≤ maxLen) (b0 : a0.size ≤ 1048576) (w1 : a1.size ≤ maxLen) (b1 : a1.size ≤ 1048576) (w2 : a2.size ≤ maxLen) (b2 : a2.size ≤ 1048576) (w3 : (Lit.int .i64 a3).wf = true) (htab : Utf8Tabs 2 3 w) :
    Calls Tryd.prog 8 #[.string a0, .string a1, .string a2, .int .i64 a3] w fun e w' => e = .returned (.bool true) ∧ Below w.heap.size w w' := by
  obtain ⟨n1, n2⟩ := wf_bounds w3
  have hl := Nat.le_trans (seRepl_len a0 a1 a2 a3) (repl_bound a0 a2 b0 b2)
  have HT := Lib.hid htab
  have S1 : Hid (∀ W, Calls Tryd.prog 23 #[.string a0, .string a1, .string a2, .int .i64 a3] W fun e w' => e = .returned (.string (seReplB a0 a1 a2 a3)) ∧ Below W.heap.size W w') := Lib.hid (fun W => seReplaced a0 a1 a2 a3 (by omega) (by omega) (by omega) n1 n2 (Nat.le_trans hl (by omega)) W)
  have I1 : Hid (∀ (W : World) (g1 o1 c1 g2 o2 c2 g3 o3 c3 : Nat), Below w.heap.size w W → Row W g1 o1 a0 → Row W g2 o2 a1 → Row W g3 o3 a2 → Calls Tryd.prog 29 #[.slice (some ⟨g1, o1, none⟩) a0.size c1, .slice (some ⟨g2, o2, none⟩) a1.size c2, .slice (some ⟨g3, o3, none⟩) a2.size c3, .int .i64 a3] W (RetRow W (seReplB a0 a1 a2 a3))) := Lib.hid (fun W g1 o1 c1 g2 o2 c2 g3 o3 c3 hB r1 r2 r3 => implBytReplace g1 o1 c1 g2 o2 c2 g3 o3 c3 a0 a1 a2 a3 W r1 r2 r3 b0 b1 b2 (Utf8Tabs_below HT.out hB))
  have I2 : Hid (∀ (W : World) (g1 o1 c1 g2 o2 c2 g3 o3 c3 : Nat), Below w.heap.size w W → Row W g1 o1 C1 → Row W g2 o2 C2 → Row W g3 o3 C3 → Calls Tryd.prog 29 #[.slice (some ⟨g1, o1, none⟩) C1.size c1, .slice (some ⟨g2, o2, none⟩) C2.size c2, .slice (some ⟨g3, o3, none⟩) C3.size c3, .int .i64 1] W (RetRow W CR)) := Lib.hid (fun W g1 o1 c1 g2 o2 c2 g3 o3 c3 hB r1 r2 r3 => by
    have h := implBytReplace g1 o1 c1 g2 o2 c2 g3 o3 c3 C1 C2 C3 1 W r1 r2 r3 (by decide) (by decide) (by decide) (Utf8Tabs_below HT.out hB)
    rw [show seReplB C1 C2 C3 1 = CR from repl_ab] at h
    exact h)
  generalize seReplB a0 a1 a2 a3 = R at *
  clear hl htab n1 n2 w3
  have hbs1 : ∀ (a : Act) (W : World), (Instr.buildSlice 24 2 (#[(0, Operand.const (.int .u8 97)), (1, Operand.const (.int .u8 98))].map fun (i, x) => (i, a.eval x))).run Tryd.prog W = .ok (.slice (some ⟨W.heap.size, 0, none⟩) C1.size C1.size) (W.alloc (.cells (bytesRow C1 C1.size) 5)) := fun a W => by kernel_rfl
  have hbs2 : ∀ (a : Act) (W : World), (Instr.buildSlice 24 1 (#[(0, Operand.const (.int .u8 98))].map fun (i, x) => (i, a.eval x))).run Tryd.prog W = .ok (.slice (some ⟨W.heap.size, 0, none⟩) C2.size C2.size) (W.alloc (.cells (bytesRow C2 C2.size) 5)) := fun a W => by kernel_rfl
  have hbs3 : ∀ (a : Act) (W : World), (Instr.buildSlice 24 1 (#[(0, Operand.const (.int .u8 99))].map fun (i, x) => (i, a.eval x))).run Tryd.prog W = .ok (.slice (some ⟨W.heap.size, 0, none⟩) C3.size C3.size) (W.alloc (.cells (bytesRow C3 C3.size) 5)) := fun a W => by kernel_rfl
  go_enter Tryd.func8, Tryd.ntmps8
  go_wp2_with fail
  refine region_inv (by kernel_rfl) [] 48 [(0, .string a0), (1, .string a1), (2, .string a2), (3, .int .i64 a3)] (fun d => kS w.heap.size (rpK a0 a1 a2 R a3 d)) (fun W => Below w.heap.size w W) (by kernel_rfl) [22, 23, 24, 25, 26, 27, 28, 29, 30, 31, 32, 33, 34, 35, 36, 37, 38, 39, 40, 41, 42, 43, 44, 45, 46, 47, 8] (by rfl) (by decide) (by simp) ⟨rfl, rfl, by simp, (Below.refl _ _).drew⟩ ⟨?_, ?_, ?_, ?_, ?_, ?_, ?_, ?_, ?_, ?_, ?_, ?_, ?_, ?_, ?_, ?_, ?_, ?_, ?_, ?_, ?_, ?_, ?_, ?_, ?_, ?_, ?_, trivial⟩ ?_
  · intro d a W hdd hf hG hd
    obtain rfl : 22 = d := Option.some.inj hdd
    refine ⟨wanted_none rfl, fun K hK => ?_⟩
    refine wp_val (ex_move rfl) (hK _ _ hG (fun _ _ h => h) ?_)
    exact hf (0, .string a0) (by simp)
  · intro d a W hdd hf hG hd
    obtain rfl : 23 = d := Option.some.inj hdd
    obtain ⟨v1, m1, e1, s1⟩ := hd ⟨0, .data⟩ (by simp) rfl _ _ rfl rfl
    obtain rfl : v1 = .string a0 := s1
    refine ⟨wanted_none rfl, fun K hK => ?_⟩
    refine wp_val (ex_convert rfl (by rw [e1]; exact hconv W a0)) (hK _ _ (by (repeat (first | exact Below.refl _ _ | assumption | refine Below.drew ?_ | refine Below.alloc ?_ (by first | exact Below.size (by assumption) | (simp; try omega)) _))) (fun _ _ h => kS_stp (Stp.below (by (repeat (first | exact Below.refl _ _ | assumption | refine Below.drew ?_ | refine Below.alloc ?_ (by first | exact Below.size (by assumption) | (simp; try omega)) _)))) h) ?_)
    exact ⟨_, 0, _, rfl, by (repeat (first | exact Row.new1 _ _ _ _ _ _ (by simp) | refine Row.drew ?_ | refine Row.alloc ?_ _))⟩
  · intro d a W hdd hf hG hd
    obtain rfl : 24 = d := Option.some.inj hdd
    refine ⟨wanted_none rfl, fun K hK => ?_⟩
    refine wp_val (ex_move rfl) (hK _ _ hG (fun _ _ h => h) ?_)
    exact hf (1, .string a1) (by simp)
  · intro d a W hdd hf hG hd
    obtain rfl : 25 = d := Option.some.inj hdd
    obtain ⟨v1, m1, e1, s1⟩ := hd ⟨2, .data⟩ (by simp) rfl _ _ rfl rfl
    obtain rfl : v1 = .string a1 := s1
    refine ⟨wanted_none rfl, fun K hK => ?_⟩
    refine wp_val (ex_convert rfl (by rw [e1]; exact hconv W a1)) (hK _ _ (by (repeat (first | exact Below.refl _ _ | assumption | refine Below.drew ?_ | refine Below.alloc ?_ (by first | exact Below.size (by assumption) | (simp; try omega)) _))) (fun _ _ h => kS_stp (Stp.below (by (repeat (first | exact Below.refl _ _ | assumption | refine Below.drew ?_ | refine Below.alloc ?_ (by first | exact Below.size (by assumption) | (simp; try omega)) _)))) h) ?_)
    exact ⟨_, 0, _, rfl, by (repeat (first | exact Row.new1 _ _ _ _ _ _ (by simp) | refine Row.drew ?_ | refine Row.alloc ?_ _))⟩
  · intro d a W hdd hf hG hd
    obtain rfl : 26 = d := Option.some.inj hdd
    refine ⟨wanted_none rfl, fun K hK => ?_⟩
    refine wp_val (ex_move rfl) (hK _ _ hG (fun _ _ h => h) ?_)
    exact hf (2, .string a2) (by simp)
  · intro d a W hdd hf hG hd
    obtain rfl : 27 = d := Option.some.inj hdd
    obtain ⟨v1, m1, e1, s1⟩ := hd ⟨4, .data⟩ (by simp) rfl _ _ rfl rfl
    obtain rfl : v1 = .string a2 := s1
    refine ⟨wanted_none rfl, fun K hK => ?_⟩
    refine wp_val (ex_convert rfl (by rw [e1]; exact hconv W a2)) (hK _ _ (by (repeat (first | exact Below.refl _ _ | assumption | refine Below.drew ?_ | refine Below.alloc ?_ (by first | exact Below.size (by assumption) | (simp; try omega)) _))) (fun _ _ h => kS_stp (Stp.below (by (repeat (first | exact Below.refl _ _ | assumption | refine Below.drew ?_ | refine Below.alloc ?_ (by first | exact Below.size (by assumption) | (simp; try omega)) _)))) h) ?_)
    exact ⟨_, 0, _, rfl, by (repeat (first | exact Row.new1 _ _ _ _ _ _ (by simp) | refine Row.drew ?_ | refine Row.alloc ?_ _))⟩
  · intro d a W hdd hf hG hd
    obtain rfl : 28 = d := Option.some.inj hdd
    refine ⟨wanted_none rfl, fun K hK => ?_⟩
    refine wp_val (ex_move rfl) (hK _ _ hG (fun _ _ h => h) ?_)
    exact hf (3, .int .i64 a3) (by simp)
  · intro d a W hdd hf hG hd
    obtain rfl : 29 = d := Option.some.inj hdd
    obtain ⟨v1, m1, e1, s1⟩ := hd ⟨1, .data⟩ (by simp) rfl _ _ rfl rfl
    obtain ⟨v2, m2, e2, s2⟩ := hd ⟨3, .data⟩ (by simp) rfl _ _ rfl rfl
    obtain ⟨v3, m3, e3, s3⟩ := hd ⟨5, .data⟩ (by simp) rfl _ _ rfl rfl
    obtain ⟨v4, m4, e4, s4⟩ := hd ⟨6, .data⟩ (by simp) rfl _ _ rfl rfl
    obtain ⟨g1, o1, c1, rfl, r1⟩ : RowV a0 v1 W := s1
    obtain ⟨g2, o2, c2, rfl, r2⟩ : RowV a1 v2 W := s2
    obtain ⟨g3, o3, c3, rfl, r3⟩ : RowV a2 v3 W := s3
    obtain rfl : v4 = .int .i64 a3 := s4
    refine ⟨wanted_none rfl, fun K hK => ?_⟩
    refine wp_call (ex_call rfl (enters_of Tryd.func29 (by kernel_rfl) rfl)) ?_
    rw [show (#[Operand.tmp 23, .tmp 25, .tmp 27, .tmp 28].map a.eval : Array Value) = #[a.eval (.tmp 23), a.eval (.tmp 25), a.eval (.tmp 27), a.eval (.tmp 28)] from (by kernel_rfl), e1, e2, e3, e4]
    refine (I1.out W g1 o1 c1 g2 o2 c2 g3 o3 c3 hG r1 r2 r3).mono ?_
    rintro e w4 ⟨p, cap, rfl, z1, z2, z3, z4, z5⟩
    exact ⟨_, rfl, hK _ _ (chainB hG z5) (fun _ _ h => kS_stp (Stp.below z5) h) ⟨p, cap, rfl, z3, z4⟩⟩
  · intro d a W hdd hf hG hd
    obtain rfl : 30 = d := Option.some.inj hdd
    obtain ⟨v1, m1, e1, s1⟩ := hd ⟨7, .data⟩ (by simp) rfl _ _ rfl rfl
    obtain ⟨p, cap, rfl, hra⟩ : RetV R v1 W := s1
    refine ⟨wanted_none rfl, fun K hK => ?_⟩
    refine wp_val (ex_convert rfl (by rw [e1]; exact hbackRet W p cap R hra)) (hK _ _ hG (fun _ _ h => h) ?_)
    exact rfl
  · intro d a W hdd hf hG hd
    obtain rfl : 31 = d := Option.some.inj hdd
    refine ⟨wanted_none rfl, fun K hK => ?_⟩
    refine wp_val (ex_move rfl) (hK _ _ hG (fun _ _ h => h) ?_)
    exact hf (0, .string a0) (by simp)
  · intro d a W hdd hf hG hd
    obtain rfl : 32 = d := Option.some.inj hdd
    refine ⟨wanted_none rfl, fun K hK => ?_⟩
    refine wp_val (ex_move rfl) (hK _ _ hG (fun _ _ h => h) ?_)
    exact hf (1, .string a1) (by simp)
  · intro d a W hdd hf hG hd
    obtain rfl : 33 = d := Option.some.inj hdd
    refine ⟨wanted_none rfl, fun K hK => ?_⟩
    refine wp_val (ex_move rfl) (hK _ _ hG (fun _ _ h => h) ?_)
    exact hf (2, .string a2) (by simp)
  · intro d a W hdd hf hG hd
    obtain rfl : 34 = d := Option.some.inj hdd
    refine ⟨wanted_none rfl, fun K hK => ?_⟩
    refine wp_val (ex_move rfl) (hK _ _ hG (fun _ _ h => h) ?_)
    exact hf (3, .int .i64 a3) (by simp)
  · intro d a W hdd hf hG hd
    obtain rfl : 35 = d := Option.some.inj hdd
    obtain ⟨v1, m1, e1, s1⟩ := hd ⟨9, .data⟩ (by simp) rfl _ _ rfl rfl
    obtain ⟨v2, m2, e2, s2⟩ := hd ⟨10, .data⟩ (by simp) rfl _ _ rfl rfl
    obtain ⟨v3, m3, e3, s3⟩ := hd ⟨11, .data⟩ (by simp) rfl _ _ rfl rfl
    obtain ⟨v4, m4, e4, s4⟩ := hd ⟨12, .data⟩ (by simp) rfl _ _ rfl rfl
    obtain rfl : v1 = .string a0 := s1
    obtain rfl : v2 = .string a1 := s2
    obtain rfl : v3 = .string a2 := s3
    obtain rfl : v4 = .int .i64 a3 := s4
    refine ⟨wanted_none rfl, fun K hK => ?_⟩
    refine wp_call (ex_call rfl (enters_of Tryd.func23 (by kernel_rfl) rfl)) ?_
    rw [show (#[Operand.tmp 31, .tmp 32, .tmp 33, .tmp 34].map a.eval : Array Value) = #[a.eval (.tmp 31), a.eval (.tmp 32), a.eval (.tmp 33), a.eval (.tmp 34)] from (by kernel_rfl), e1, e2, e3, e4]
    refine (S1.out W).mono ?_
    rintro e w4 ⟨rfl, z5⟩
    exact ⟨_, rfl, hK _ _ (chainB hG z5) (fun _ _ h => kS_stp (Stp.below z5) h) rfl⟩
  · intro d a W hdd hf hG hd
    obtain rfl : 36 = d := Option.some.inj hdd
    obtain ⟨v1, m1, e1, s1⟩ := hd ⟨8, .data⟩ (by simp) rfl _ _ rfl rfl
    obtain ⟨v2, m2, e2, s2⟩ := hd ⟨13, .data⟩ (by simp) rfl _ _ rfl rfl
    obtain rfl : v1 = .string R := s1
    obtain rfl : v2 = .string R := s2
    refine ⟨wanted_none rfl, fun K hK => ?_⟩
    refine wp_val (ex_eql rfl e1 e2) (hK _ _ hG (fun _ _ h => h) ?_)
    exact rfl
  · intro d a W hdd hf hG hd
    obtain rfl : 37 = d := Option.some.inj hdd
    obtain ⟨v1, m1, e1, s1⟩ := hd ⟨14, .data⟩ (by simp) rfl _ _ rfl rfl
    obtain rfl : v1 = .bool true := s1
    refine ⟨wanted_none rfl, fun K hK => ?_⟩
    refine wp_val (ex_move rfl) (hK _ _ hG (fun _ _ h => h) ?_)
    exact e1
  · intro d a W hdd hf hG hd
    obtain rfl : 38 = d := Option.some.inj hdd
    obtain ⟨v99, m99, e99, s99⟩ := hd ⟨15, .guard⟩ (by simp) rfl _ _ rfl rfl
    obtain rfl : v99 = .bool true := s99
    refine ⟨wanted_some rfl rfl rfl m99, fun K hK => ?_⟩
    refine wp_val (ex_build rfl (hbs1 a W)) (hK _ _ (by (repeat (first | exact Below.refl _ _ | assumption | refine Below.drew ?_ | refine Below.alloc ?_ (by first | exact Below.size (by assumption) | (simp; try omega)) _))) (fun _ _ h => kS_stp (Stp.below (by (repeat (first | exact Below.refl _ _ | assumption | refine Below.drew ?_ | refine Below.alloc ?_ (by first | exact Below.size (by assumption) | (simp; try omega)) _)))) h) ?_)
    exact ⟨_, _, rfl, heap_new _ _, hG.size⟩
  · intro d a W hdd hf hG hd
    obtain rfl : 39 = d := Option.some.inj hdd
    obtain ⟨v99, m99, e99, s99⟩ := hd ⟨15, .guard⟩ (by simp) rfl _ _ rfl rfl
    obtain rfl : v99 = .bool true := s99
    obtain ⟨v1, m1, e1, s1⟩ := hd ⟨16, .data⟩ (by simp) rfl _ _ rfl rfl
    obtain ⟨g, fr, rfl, hg, hB⟩ : CstV w.heap.size C1 v1 W := s1
    obtain ⟨k, hk⟩ := run_convert_frozen (P := Tryd.prog) W 24 5 g _ fr C1.size C1.size hg Tryd.underlying24 Tryd.underlying5
    refine ⟨wanted_some rfl rfl rfl m99, fun K hK => ?_⟩
    refine wp_val (ex_convert rfl (by rw [e1]; exact hk)) (hK _ _ (freeze_below hG hB) (fun _ _ h => kS_stp (freeze_stp W g k) h) ?_)
    exact ⟨g, 0, _, rfl, (row_cells hg).stp (freeze_stp W g k)⟩
  · intro d a W hdd hf hG hd
    obtain rfl : 40 = d := Option.some.inj hdd
    obtain ⟨v99, m99, e99, s99⟩ := hd ⟨15, .guard⟩ (by simp) rfl _ _ rfl rfl
    obtain rfl : v99 = .bool true := s99
    refine ⟨wanted_some rfl rfl rfl m99, fun K hK => ?_⟩
    refine wp_val (ex_build rfl (hbs2 a W)) (hK _ _ (by (repeat (first | exact Below.refl _ _ | assumption | refine Below.drew ?_ | refine Below.alloc ?_ (by first | exact Below.size (by assumption) | (simp; try omega)) _))) (fun _ _ h => kS_stp (Stp.below (by (repeat (first | exact Below.refl _ _ | assumption | refine Below.drew ?_ | refine Below.alloc ?_ (by first | exact Below.size (by assumption) | (simp; try omega)) _)))) h) ?_)
    exact ⟨_, _, rfl, heap_new _ _, hG.size⟩
  · intro d a W hdd hf hG hd
    obtain rfl : 41 = d := Option.some.inj hdd
    obtain ⟨v99, m99, e99, s99⟩ := hd ⟨15, .guard⟩ (by simp) rfl _ _ rfl rfl
    obtain rfl : v99 = .bool true := s99
    obtain ⟨v1, m1, e1, s1⟩ := hd ⟨18, .data⟩ (by simp) rfl _ _ rfl rfl
    obtain ⟨g, fr, rfl, hg, hB⟩ : CstV w.heap.size C2 v1 W := s1
    obtain ⟨k, hk⟩ := run_convert_frozen (P := Tryd.prog) W 24 5 g _ fr C2.size C2.size hg Tryd.underlying24 Tryd.underlying5
    refine ⟨wanted_some rfl rfl rfl m99, fun K hK => ?_⟩
    refine wp_val (ex_convert rfl (by rw [e1]; exact hk)) (hK _ _ (freeze_below hG hB) (fun _ _ h => kS_stp (freeze_stp W g k) h) ?_)
    exact ⟨g, 0, _, rfl, (row_cells hg).stp (freeze_stp W g k)⟩
  · intro d a W hdd hf hG hd
    obtain rfl : 42 = d := Option.some.inj hdd
    obtain ⟨v99, m99, e99, s99⟩ := hd ⟨15, .guard⟩ (by simp) rfl _ _ rfl rfl
    obtain rfl : v99 = .bool true := s99
    refine ⟨wanted_some rfl rfl rfl m99, fun K hK => ?_⟩
    refine wp_val (ex_build rfl (hbs3 a W)) (hK _ _ (by (repeat (first | exact Below.refl _ _ | assumption | refine Below.drew ?_ | refine Below.alloc ?_ (by first | exact Below.size (by assumption) | (simp; try omega)) _))) (fun _ _ h => kS_stp (Stp.below (by (repeat (first | exact Below.refl _ _ | assumption | refine Below.drew ?_ | refine Below.alloc ?_ (by first | exact Below.size (by assumption) | (simp; try omega)) _)))) h) ?_)
    exact ⟨_, _, rfl, heap_new _ _, hG.size⟩
  · intro d a W hdd hf hG hd
    obtain rfl : 43 = d := Option.some.inj hdd
    obtain ⟨v99, m99, e99, s99⟩ := hd ⟨15, .guard⟩ (by simp) rfl _ _ rfl rfl
    obtain rfl : v99 = .bool true := s99
    obtain ⟨v1, m1, e1, s1⟩ := hd ⟨20, .data⟩ (by simp) rfl _ _ rfl rfl
    obtain ⟨g, fr, rfl, hg, hB⟩ : CstV w.heap.size C3 v1 W := s1
    obtain ⟨k, hk⟩ := run_convert_frozen (P := Tryd.prog) W 24 5 g _ fr C3.size C3.size hg Tryd.underlying24 Tryd.underlying5
    refine ⟨wanted_some rfl rfl rfl m99, fun K hK => ?_⟩
    refine wp_val (ex_convert rfl (by rw [e1]; exact hk)) (hK _ _ (freeze_below hG hB) (fun _ _ h => kS_stp (freeze_stp W g k) h) ?_)
    exact ⟨g, 0, _, rfl, (row_cells hg).stp (freeze_stp W g k)⟩
  · intro d a W hdd hf hG hd
    obtain rfl : 44 = d := Option.some.inj hdd
    obtain ⟨v99, m99, e99, s99⟩ := hd ⟨15, .guard⟩ (by simp) rfl _ _ rfl rfl
    obtain rfl : v99 = .bool true := s99
    obtain ⟨v1, m1, e1, s1⟩ := hd ⟨17, .data⟩ (by simp) rfl _ _ rfl rfl
    obtain ⟨v2, m2, e2, s2⟩ := hd ⟨19, .data⟩ (by simp) rfl _ _ rfl rfl
    obtain ⟨v3, m3, e3, s3⟩ := hd ⟨21, .data⟩ (by simp) rfl _ _ rfl rfl
    obtain ⟨g1, o1, c1, rfl, r1⟩ : RowV C1 v1 W := s1
    obtain ⟨g2, o2, c2, rfl, r2⟩ : RowV C2 v2 W := s2
    obtain ⟨g3, o3, c3, rfl, r3⟩ : RowV C3 v3 W := s3
    refine ⟨wanted_some rfl rfl rfl m99, fun K hK => ?_⟩
    refine wp_call (ex_call rfl (enters_of Tryd.func29 (by kernel_rfl) rfl)) ?_
    rw [show (#[Operand.tmp 39, .tmp 41, .tmp 43, .const (.int .i64 1)].map a.eval : Array Value) = #[a.eval (.tmp 39), a.eval (.tmp 41), a.eval (.tmp 43), .int .i64 1] from (by kernel_rfl), e1, e2, e3]
    refine (I2.out W g1 o1 c1 g2 o2 c2 g3 o3 c3 hG r1 r2 r3).mono ?_
    rintro e w4 ⟨p, cap, rfl, z1, z2, z3, z4, z5⟩
    exact ⟨_, rfl, hK _ _ (chainB hG z5) (fun _ _ h => kS_stp (Stp.below z5) h) ⟨p, cap, rfl, z3, z4⟩⟩
  · intro d a W hdd hf hG hd
    obtain rfl : 45 = d := Option.some.inj hdd
    obtain ⟨v99, m99, e99, s99⟩ := hd ⟨15, .guard⟩ (by simp) rfl _ _ rfl rfl
    obtain rfl : v99 = .bool true := s99
    obtain ⟨v1, m1, e1, s1⟩ := hd ⟨22, .data⟩ (by simp) rfl _ _ rfl rfl
    obtain ⟨p, cap, rfl, hra⟩ : RetV CR v1 W := s1
    refine ⟨wanted_some rfl rfl rfl m99, fun K hK => ?_⟩
    refine wp_val (ex_convert rfl (by rw [e1]; exact hbackRet W p cap CR hra)) (hK _ _ hG (fun _ _ h => h) ?_)
    exact rfl
  · intro d a W hdd hf hG hd
    obtain rfl : 46 = d := Option.some.inj hdd
    obtain ⟨v99, m99, e99, s99⟩ := hd ⟨15, .guard⟩ (by simp) rfl _ _ rfl rfl
    obtain rfl : v99 = .bool true := s99
    obtain ⟨v1, m1, e1, s1⟩ := hd ⟨23, .data⟩ (by simp) rfl _ _ rfl rfl
    obtain rfl : v1 = .string CR := s1
    refine ⟨wanted_some rfl rfl rfl m99, fun K hK => ?_⟩
    refine wp_val (ex_eql rfl e1 rfl) (hK _ _ hG (fun _ _ h => h) ?_)
    exact rfl
  · intro d a W hdd hf hG hd
    obtain rfl : 47 = d := Option.some.inj hdd
    obtain ⟨v1, m1, e1, s1⟩ := hd ⟨15, .data⟩ (by simp) rfl _ _ rfl rfl
    obtain ⟨v2, m2, e2, s2⟩ := hd ⟨24, .data⟩ (by simp) rfl _ _ rfl rfl
    obtain rfl : v1 = .bool true := s1
    obtain rfl : v2 = .bool true := s2
    refine ⟨wanted_none rfl, fun K hK => ?_⟩
    refine wp_val (ex_pick rfl e1) (hK _ _ hG (fun _ _ h => h) ?_)
    exact e2
  · intro d a W hdd hf hG hd
    obtain rfl : 8 = d := Option.some.inj hdd
    obtain ⟨v1, m1, e1, s1⟩ := hd ⟨25, .data⟩ (by simp) rfl _ _ rfl rfl
    obtain rfl : v1 = .bool true := s1
    refine ⟨wanted_none rfl, fun K hK => ?_⟩
    refine wp_val (ex_assign rfl) (hK _ _ hG (fun _ _ h => h) ?_)
    exact e1
  · intro a W h1 h2 h3 h4
    obtain ⟨v, hv, hs⟩ := h4 8 (by simp)
    obtain rfl : v = .bool true := hs
    go_wp2_with fail
    refine bodyPost_ret (results_tmp rfl _ _ _) h1 ?_
    exact ⟨by rw [Array.getD_eq_getD_getElem?, hv]; rfl, h3⟩
end Go.Proofs.YthnbifkcbeldmaaDoor
