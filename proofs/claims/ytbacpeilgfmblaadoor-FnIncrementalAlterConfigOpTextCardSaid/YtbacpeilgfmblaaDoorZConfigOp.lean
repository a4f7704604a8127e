/-
  FnIncrementalAlterConfigOpText: its row and its card. For every number of eight bits: where it has a word that the documentation names, it is written as that word, and marshalled so, and both are read as the number. What the row says of its variables: Go's library's tables are as the program's text lays them.
-/
import Derived.Test.YtbacpeilgfmblaaDoorCards
import Derived.Test.YtbacpeilgfmblaaDoorTie
import Derived.Test.YtbacpeilgfmblaaDoorSConfigOp
import Derived.WalkKit
import Derived.ProofKit
import Derived.OpenShut
import Derived.Deep.DeepHandedRow
import Derived.Lib.LaidCaseMet
import Derived.PinnedBridge
import Derived.Deep.DeepWitnessRowRef
namespace Go.Proofs.YtbacpeilgfmblaaDoor.fnIncrementalAlterConfigOpText
open Go.ChangeShapes Go.WideShapes Go.ChangeAt Go.RowKit

theorem own : ownKnob Tryd.prog.godebug = none := by kernel_rfl
theorem asc_eq : Rows.laid_strings_asciiSpace (H := Unit) = Lib.tabData .u8 Lib.asciiSpaceTab := by kernel_rfl
theorem acc_eq : Rows.laid_unicode_utf8_acceptRanges (H := Unit) = Lib.acceptData := by kernel_rfl
theorem whi_eq : Rows.laid_unicode_White_Space (H := Unit) = Lib.whiteData := by kernel_rfl
theorem cas_eq : Rows.laid_unicode_CaseRanges = Lib.caseData := Pinned.caseRanges_eq
theorem fir_eq : Rows.laid_unicode_utf8_first = Lib.firstData := Pinned.utf8First_eq
abbrev four : List (String × DataW Unit) := [("strings.asciiSpace", Lib.tabData .u8 Lib.asciiSpaceTab), ("unicode/utf8.first", Lib.firstData), ("unicode/utf8.acceptRanges", Lib.acceptData), ("unicode.White_Space", Lib.whiteData)]
theorem laid_eq : Rows.fnIncrementalAlterConfigOpTextRow.laid = [("unicode/utf8.acceptRanges", Lib.acceptData), ("unicode.White_Space", Lib.whiteData), ("strings.asciiSpace", Lib.tabData .u8 Lib.asciiSpaceTab), ("unicode.CaseRanges", Lib.caseData), ("unicode/utf8.first", Lib.firstData)] := by
  rw [← asc_eq, ← acc_eq, ← whi_eq, ← cas_eq, ← fir_eq]
  rfl
theorem perm5 {α : Type} (a b c d e : α) : ([c, e, a, b] ++ [d]).Perm [a, b, c, d, e] := by
  have h1 : ([c, e, a, b] ++ [d]).Perm ([a, b] ++ [c, e] ++ [d]) := (List.perm_append_comm (l₁ := [c, e]) (l₂ := [a, b])).append_right _
  have h2 : ([a, b] ++ [c, e] ++ [d]).Perm [a, b, c, d, e] := by
    show ([a, b, c] ++ ([e] ++ [d])).Perm ([a, b, c] ++ ([d] ++ [e]))
    exact (List.perm_append_comm (l₁ := [e]) (l₂ := [d])).append_left _
  exact h1.trans h2
/-- what the row's list gives -/
theorem tabOf {W : World} (h : laidMetH Tryd.prog Rows.fnIncrementalAlterConfigOpTextRow.laid W) : Lib.TabIs Tryd.prog W "strings.asciiSpace" .u8 Lib.asciiSpaceTab := by
  have h1 : laidMet Tryd.prog Rows.fnIncrementalAlterConfigOpTextRow.laid W := Kx.laidMet_ofH (by kernel_rfl) h
  rw [laid_eq] at h1
  exact Lib.tabIs_of_head (g := 0) (t := 56) (e := 5) (n := 256) (by kernel_rfl) (by kernel_rfl) (by kernel_rfl) (by kernel_rfl) (by kernel_rfl) (by kernel_rfl) (Kx.laidMet_perm (perm5 _ _ _ _ _).symm h1)

/-- a start that fits: the tables as their initialisers lay them -/
noncomputable def laidWorld (os : Os) : World :=
  let N := (World.settled Tryd.prog os).heap.size
  let w0 := World.holding Tryd.prog os ⟨#[.cells (Lib.whiteT.map fun (z : Nat) => Value.int .u16 (z : Int)).toArray 83, .cells #[.slice (some ⟨N, 0, none⟩) 7 7, .slice none 0 0, .int .i64 2] 80,
    .cells Lib.caseCells5 108], #[], []⟩
  let put (h : Array Obj) (g : Nat) (cs : Array Value) : Array Obj := h.modify g fun
    | .cells _ t frozen => .cells cs t frozen
    | o => o
  let h1 := put w0.heap 0 (Lib.asciiSpaceTab.map fun z => Value.int .u8 z).toArray
  let h2 := put h1 3 (Lib.firstTab.map fun z => Value.int .u8 z).toArray
  let h3 := put h2 4 ((List.range 16).flatMap fun i => [Value.int .u8 (Lib.accLo i), Value.int .u8 (Lib.accHi i)]).toArray
  let h4 := put h3 1 #[.pointer (some ⟨N + 1, 0, none⟩)]
  let h5 := put h4 2 #[.slice (some ⟨N + 2, 0, none⟩) 336 336]
  { w0 with heap := h5 }
theorem laid_met (os : Os) (args : Array Value) : laidMet Tryd.prog Rows.fnIncrementalAlterConfigOpTextRow.laid ((laidWorld os).forCall (fun _ _ => 0) ⟨#[], args, []⟩).memory := by
  rw [laid_eq]
  refine Kx.laidMet_perm (perm5 _ _ _ _ _) ?_
  exact laidMet_with_case (ρ := Tryd.lays159_ren) { Tryd.lays159 with } Tryd.lays159.t206 ⟨by kernel_rfl, by kernel_rfl, by kernel_rfl, by kernel_rfl, by kernel_rfl, by kernel_rfl⟩
    (l := four) 10 (by kernel_rfl) (by kernel_rfl) (by kernel_rfl) ((World.settled Tryd.prog default).heap.size + 2) 108 (of_decide_eq_true (by kernel_rfl)) (by kernel_rfl) (by kernel_rfl) (by kernel_rfl)
theorem reads (os : Os) {H : Type} (enc : TypeId × Value → H) : ∃ places, DataW.whole enc Tryd.prog ((laidWorld os).forCall (fun _ _ => 0) ⟨#[], #[.int .i8 0], []⟩).memory Tryd.f3.params.toList Rows.fnIncrementalAlterConfigOpTextSpec.vars false #[Value.int .i8 0].toList 8 = some ([.lit (.int .i8 0)], [], places) :=
  ⟨[], by kernel_rfl⟩

set_option maxRecDepth 100000 in
theorem contract (H : Type) (enc : TypeId × Value → H) (W : World) (base : Nat) (args : Array Value) (ds gs : List (DataW H)) (before : List MemPlace)
    (hval : ∀ (j : Nat) t v, Tryd.f3.params[j]? = some t → args[j]? = some v → Value.okWide Tryd.prog W .any base t v)
    (hW : DataW.Whole enc Tryd.prog Tryd.f3.params.toList Rows.fnIncrementalAlterConfigOpTextSpec.vars false W args.toList ds gs before) (hL : laidMetH Tryd.prog Rows.fnIncrementalAlterConfigOpTextRow.laid W) :
    Calls Tryd.prog 3 args W fun e W' => ∃ v, e = .returned v ∧ Rows.fnIncrementalAlterConfigOpTextSpec.post enc Tryd.prog Tryd.f3 false true false false W args v W' :=
  Kx.rowI (tX := 22) (tB := 4) (by kernel_rfl) (by kernel_rfl) (by kernel_rfl) (by kernel_rfl) rfl (fun _ => rfl) hval hW fun _ hx => Kx.law (tabOf hL) hx

set_option maxRecDepth 100000 in
theorem lifted (os : Os) (started : os.Started) (H : Type) (enc : TypeId × Value → H) (F : Stop.Interp) :
    ReturnsInHanded {} Tryd.checked os 3 .any ((OpenSpec.ofChange Rows.fnIncrementalAlterConfigOpTextSpec).preRow enc Tryd.prog Tryd.f3 Rows.fnIncrementalAlterConfigOpTextRow.domain false Rows.fnIncrementalAlterConfigOpTextRow.laid) (((OpenSpec.ofChange Rows.fnIncrementalAlterConfigOpTextSpec).at F).post enc Tryd.prog Tryd.f3 false true false false) := by
  obtain ⟨places, hx⟩ := reads os enc
  refine returnsInHanded_of_row (C := Tryd.checked) (s := OpenSpec.ofChange Rows.fnIncrementalAlterConfigOpTextSpec) own started (by kernel_rfl) Tryd.func3
    (witness_row_atRef (enc := enc) (C := Tryd.checked) false (laidWorld os) #[.int .i8 0] rfl (by kernel_rfl) (by kernel_rfl) (by kernel_rfl)
      (OpenSpec.preRow_of_cond 8 hx (by kernel_rfl) (fun k hk => by cases hk) (by kernel_rfl) (laid_met os _))) ?_
  intro W base args ds gs before hval hW _ _ _ hL _ _
  exact contract H enc W base args ds gs before hval hW hL

theorem said : Rows.FnIncrementalAlterConfigOpTextSaid :=
  OpenClaim.holds_of_cond 3 Tryd.f3 rfl rfl rfl rfl rfl rfl rfl ⟨rfl, rfl, rfl, rfl, rfl⟩ rfl rfl rfl rfl rfl (by kernel_rfl) Tryd.func3 (by kernel_rfl)
    (of_decide_eq_true (by kernel_rfl)) (by unfold Func.isWrapper; first | (rw [if_pos (by decide +kernel)]; kernel_rfl) | (rw [if_neg (by decide +kernel)]; exact ⟨rfl, rfl⟩))
    (fun os started H enc _ F => by rw [OpenClaim.pre_eq_preRow]; exact lifted os started H enc F)

/-- no parameter wants a stand-in; the program's own looks are off -/
theorem plain (f : FuncId) (fn : Func) (hf : Tryd.pinned.checked.prog.funcNamed "pub-kmsg/laws.FnIncrementalAlterConfigOpText" = some f) (hfn : Tryd.pinned.checked.prog.funcs[f]? = some fn) :
    false = Tryd.pinned.checked.prog.looks [] ∧ ∀ (j : Nat) t, fn.params[j]? = some t → Tryd.pinned.checked.prog.wantsStandIn t = false := by
  obtain rfl : f = 3 := Option.some.inj ((show Tryd.prog.funcNamed "pub-kmsg/laws.FnIncrementalAlterConfigOpText" = some 3 by kernel_rfl).symm.trans hf) |>.symm
  obtain rfl : fn = Tryd.f3 := (Option.some.inj (Tryd.func3.symm.trans hfn)).symm
  refine ⟨by kernel_rfl, fun j t ht => ?_⟩
  have hp : Tryd.f3.params = #[22] := by kernel_rfl
  rw [hp] at ht
  have hm : t = 22 := by simpa using Array.mem_of_getElem? ht
  subst hm
  exact (show Tryd.prog.wantsStandIn 22 = false by kernel_rfl)

/-- THE CARD -/
theorem card : Rows.FnIncrementalAlterConfigOpTextCardSaid :=
  Claim7.holds_tied_plain_at .later [] _ _ _ _ said (fun _ h => by cases h) (by kernel_rfl) (fun _ h => by cases h) fnIncrementalAlterConfigOpText_row_tie rfl ⟨rfl, rfl⟩ (by kernel_rfl) rfl plain (by kernel_rfl)
#print axioms card
end Go.Proofs.YtbacpeilgfmblaaDoor.fnIncrementalAlterConfigOpText
namespace Go.Proofs.YtbacpeilgfmblaaDoor
/-- the card, under a short name -/
theorem fnIncrementalAlterConfigOpText_holds : Rows.FnIncrementalAlterConfigOpTextCardSaid := fnIncrementalAlterConfigOpText.card
end Go.Proofs.YtbacpeilgfmblaaDoor
