/- FnFieldsTrimmed returns true for every input, and each argument reads afterwards as it read before. Conditions: the row's own (unicode/utf8's two tables hold what their text lays, which the card ties). (The frame is after the guide's worked rows over laid tables.) -/
import Derived.Test.YthnbifkcbeldmaaDoorCards
import Derived.Test.YthnbifkcbeldmaaDoorTie
import Derived.Test.YthnbifkcbeldmaaDoorShelf
import Derived.WalkKit
import Derived.ProofKit
import Derived.OpenShut
import Derived.ShutString
import Derived.ChangeOld
import Derived.Below
import Derived.SizedLaws
import Derived.Deep.DeepHandedRow
import Derived.Deep.DeepWitnessRowRef
import Derived.Deep.DeepLaidRun
import Derived.ChangeVars
import Derived.OpenVars
import Derived.Stop.LaidErr
import Derived.Lib.LaidTab
import Derived.Lib.LaidIn
import Derived.Lib.LaidU8
import Derived.Test.YthnbifkcbeldmaaDoorLwFldT
namespace Go.Proofs.YthnbifkcbeldmaaDoor.fnFieldsTrimmed
open Go.ChangeShapes Go.WideShapes Go.ChangeAt Go.RowKit Go.Lib
open Go.ChangeMaps (open_string shut_string)
set_option linter.unusedVariables false

theorem own : ownKnob Tryd.prog.godebug = none := by kernel_rfl
theorem first_is : Rows.laid_unicode_utf8_first = Lib.firstData := by kernel_rfl
theorem laidOut : laidOutB Tryd.prog = true := by kernel_rfl
theorem white_is : (Rows.laid_unicode_White_Space : DataW Unit) = Lib.whiteData := by kernel_rfl
theorem space_is : (Rows.laid_loop_example_pub_g01460_pub_gostrings_asciiSpace : DataW Unit) = Lib.tabData .u8 Lib.asciiSpaceTab := by kernel_rfl
theorem gT : Tryd.prog.globalNamed "loop.example/pub-g01460/pub/gostrings.asciiSpace" = some 0 := by kernel_rfl
theorem gTType : (Tryd.prog.globals[0]?).map (·.type) = some 83 := by kernel_rfl
theorem cellsU8 : Tryd.prog.cellsOf 5 = 1 := by kernel_rfl
theorem cellsTab : Tryd.prog.cellsOf 83 = 256 := by kernel_rfl
theorem accept_is : (Rows.laid_unicode_utf8_acceptRanges : DataW Unit) = Lib.acceptData := by kernel_rfl

theorem walk (a0 : ByteArray) (w : World) (w0 : a0.size ≤ maxLen) {T oT R oR : Nat} (hF : FT 0 2 3 1 T oT R oR w) :
    Calls Tryd.prog 11 #[.string a0] w fun e w' => e = .returned (.bool true) ∧ Below w.heap.size w w' :=
  YthnbifkcbeldmaaDoor.walk_FnFieldsTrimmed a0 w w0 hF

/-- a world for the witness: the two tables hold what their initialisers lay -/
noncomputable def laidWorld (os : Os) : World :=
  let N := (World.settled Tryd.prog os).heap.size
  let w0 := World.holding Tryd.prog os ⟨#[.cells (Lib.whiteT.map fun (z : Nat) => Value.int .u16 (z : Int)).toArray 127, .cells #[.slice (some ⟨N, 0, none⟩) 7 7, .slice none 0 0, .int .i64 2] 124], #[], []⟩
  let put (h : Array Obj) (g : Nat) (cs : Array Value) : Array Obj := h.modify g fun
    | .cells _ t frozen => .cells cs t frozen
    | o => o
  let h1 := put w0.heap 2 (Lib.firstTab.map fun z => Value.int .u8 z).toArray
  let h2 := put h1 3 ((List.range 16).flatMap fun i => [Value.int .u8 (Lib.accLo i), Value.int .u8 (Lib.accHi i)]).toArray
  let h3 := put h2 0 (Lib.asciiSpaceTab.map fun z => Value.int .u8 z).toArray
  let h4 := put h3 1 #[.pointer (some ⟨N + 1, 0, none⟩)]
  { w0 with heap := h4 }
theorem laid_met (os : Os) : laidMet Tryd.prog Rows.fnFieldsTrimmedRow.laid ((laidWorld os).forCall (fun _ _ => 0) ⟨#[], #[.string ⟨#[]⟩], []⟩).memory :=
  laidMet_of_run3 10 (by kernel_rfl) (by kernel_rfl) (by kernel_rfl)
theorem witness_row (os : Os) {H : Type} (enc : TypeId × Value → H) :
    (OpenSpec.ofChange Rows.fnFieldsTrimmedSpec).preRow enc Tryd.prog Tryd.f11 Rows.fnFieldsTrimmedRow.domain false Rows.fnFieldsTrimmedRow.laid ((laidWorld os).forCall (fun _ _ => 0) ⟨#[], #[.string ⟨#[]⟩], []⟩).memory #[.string ⟨#[]⟩] := by
  have hw : (DataW.whole enc Tryd.prog ((laidWorld os).forCall (fun _ _ => 0) ⟨#[], #[.string ⟨#[]⟩], []⟩).memory Tryd.f11.params.toList Rows.fnFieldsTrimmedSpec.vars false #[Value.string ⟨#[]⟩].toList 8).map (fun x => (x.1, x.2.1)) =
      some ([.lit (.string [])], [Lib.tabData .u8 Lib.asciiSpaceTab]) := by kernel_rfl
  obtain ⟨⟨x1, x2, x3⟩, hx, hx1⟩ := Option.map_eq_some_iff.1 hw
  simp only [Prod.mk.injEq] at hx1
  obtain ⟨rfl, rfl⟩ := hx1
  exact OpenSpec.preRow_of_cond 8 hx (by kernel_rfl) (fun k hk => by cases hk) (by kernel_rfl) (laid_met os)

set_option maxRecDepth 100000 in
set_option maxHeartbeats 2000000 in
theorem lifted (os : Os) (started : os.Started) (H : Type) (enc : TypeId × Value → H) (F : Stop.Interp) :
    ReturnsInHanded {} Tryd.checked os 11 .any ((OpenSpec.ofChange Rows.fnFieldsTrimmedSpec).preRow enc Tryd.prog Tryd.f11 Rows.fnFieldsTrimmedRow.domain false Rows.fnFieldsTrimmedRow.laid) (((OpenSpec.ofChange Rows.fnFieldsTrimmedSpec).at F).post enc Tryd.prog Tryd.f11 false true false false) := by
  refine returnsInHanded_of_row (C := Tryd.checked) (s := OpenSpec.ofChange Rows.fnFieldsTrimmedSpec) own started (by kernel_rfl) Tryd.func11
    (witness_row_atRef (enc := enc) (C := Tryd.checked) false (laidWorld os) #[.string ⟨#[]⟩] rfl (by kernel_rfl) (by kernel_rfl) (by kernel_rfl) (witness_row os enc)) ?_
  intro W base args ds gs before hval0 hW _ _ _ hL _ _
  have hval : ∀ (j : Nat) t v, Tryd.f11.params[j]? = some t → args[j]? = some v → Value.okWide Tryd.prog W .any base t v := hval0
  have hW' := hW
  obtain ⟨p, q, hA0, hV, rfl, hfz, hnd⟩ := hW
  have hA : DataW.TrodAll enc Tryd.prog W 0 (fun _ => true) true Tryd.f11.params.toList args.toList ds p := hA0
  rw [Tryd.params11] at hA hval
  obtain ⟨v0, vs0, d0, ds0, p0, q0, hargs, rfl, rfl, h0, r0⟩ := trodAll_cons hA
  obtain ⟨rfl, rfl, rfl⟩ := trodAll_nil r0
  obtain rfl : args = #[v0] := by cases args; simp_all
  have hVq : DataW.TrodVars enc Tryd.prog W (fun _ => true) ["loop.example/pub-g01460/pub/gostrings.asciiSpace"] gs q := hV
  obtain ⟨_, _, _, _, dg, _, rfl, _⟩ := trodVars_one hVq
  obtain ⟨a0, rfl, rfl, rfl, w0⟩ := open_string Tryd.underlying9 (hval 0 9 v0 rfl rfl) h0
  clear hA0 hval0
  have r1 : Lib.VarReads Tryd.prog W "unicode/utf8.acceptRanges" Lib.acceptData := accept_is ▸ Lib.laidMet.reads hL (.head _)
  have r2 : Lib.VarReads Tryd.prog W "unicode/utf8.first" Lib.firstData := first_is ▸ Lib.laidMet.reads hL (.tail _ (.tail _ (.tail _ (.head _))))
  have r3 : Lib.VarReads Tryd.prog W "unicode.White_Space" Lib.whiteData := white_is ▸ Lib.laidMet.reads hL (.tail _ (.head _))
  have htb : Lib.TabIs Tryd.prog W "loop.example/pub-g01460/pub/gostrings.asciiSpace" .u8 Lib.asciiSpaceTab := by
    have h2 := laidMet.tail (laidMet.tail hL)
    rw [space_is] at h2
    exact Lib.tabIs_of_head gT gTType Tryd.underlying83 Tryd.underlying5 cellsU8 cellsTab h2
  have htab : Lib.Utf8Tabs 2 3 W :=
    utf8Tabs_of_reads (ρ := Tryd.lays260_ren) { Tryd.lays260 with } ⟨by kernel_rfl, by kernel_rfl, by kernel_rfl, by kernel_rfl, by kernel_rfl, by kernel_rfl, by kernel_rfl⟩ r2 r1
  obtain ⟨T, oT, R, oR, hwh⟩ : Lib.WhiteTab 1 W := whiteTab_of_reads (ρ := Tryd.lays199_ren) { Tryd.lays199 with } ⟨by kernel_rfl, by kernel_rfl, by kernel_rfl, by kernel_rfl, by kernel_rfl, by kernel_rfl, by kernel_rfl, by kernel_rfl⟩ r3
  have hF : FT 0 2 3 1 T oT R oR W := ⟨fun c hc => by rw [htb.cell gT c (by rw [Lib.asciiSpaceTab_length]; exact hc), Lib.asciiSpaceTab_at c hc], htab, hwh⟩
  refine (walk a0 W w0 hF).mono fun e W' ⟨he, bel⟩ => ?_
  subst he
  exact ⟨_, rfl, _, _, _, [], _, _, hW', trodAll_mk1 (shut_bool Tryd.underlying4 _), (trodAll_cons_mk (shut_string Tryd.underlying9 w0) trodAll_mk0), Below.trodVars laidOut bel (by kernel_rfl) hVq, bel.frame _, fun h => by cases h⟩

theorem said : Rows.FnFieldsTrimmedSaid :=
  OpenClaim.holds_of_cond 11 Tryd.f11 rfl rfl rfl rfl rfl rfl rfl ⟨rfl, rfl, rfl, rfl, rfl⟩ rfl rfl rfl rfl rfl (by kernel_rfl) Tryd.func11 (by kernel_rfl)
    (of_decide_eq_true (by kernel_rfl)) (by unfold Func.isWrapper; first | (rw [if_pos (by decide +kernel)]; kernel_rfl) | (rw [if_neg (by decide +kernel)]; exact ⟨rfl, rfl⟩))
    (fun os started H enc _ F => by rw [OpenClaim.pre_eq_preRow]; exact lifted os started H enc F)

theorem plain (f : FuncId) (fn : Func) (hf : Tryd.pinned.checked.prog.funcNamed "loop.example/pub-g01460/laws.FnFieldsTrimmed" = some f) (hfn : Tryd.pinned.checked.prog.funcs[f]? = some fn) :
    false = Tryd.pinned.checked.prog.looks [] ∧ ∀ (j : Nat) t, fn.params[j]? = some t → Tryd.pinned.checked.prog.wantsStandIn t = false := by
  obtain rfl : f = 11 := Option.some.inj ((show Tryd.prog.funcNamed "loop.example/pub-g01460/laws.FnFieldsTrimmed" = some 11 by kernel_rfl).symm.trans hf) |>.symm
  obtain rfl : fn = Tryd.f11 := (Option.some.inj (Tryd.func11.symm.trans hfn)).symm
  refine ⟨by kernel_rfl, fun j t ht => ?_⟩
  rw [Tryd.params11] at ht
  have hm : t = 9 := by simpa using Array.mem_of_getElem? ht
  rcases hm with rfl
  · exact (show Tryd.prog.wantsStandIn 9 = false by kernel_rfl)

/-- THE STATEMENT -/
theorem proved : Rows.FnFieldsTrimmedCardSaid :=
  Claim7.holds_tied_plain_at .later [] _ _ _ _ said (fun _ h => by cases h) (by kernel_rfl) (fun _ h => by cases h) fnFieldsTrimmed_row_tie rfl ⟨rfl, rfl⟩ (by kernel_rfl) rfl plain (by kernel_rfl)
#print axioms proved
end Go.Proofs.YthnbifkcbeldmaaDoor.fnFieldsTrimmed
