/-
  FnNewFetchRequest: its row. For every octet x: a new FetchRequest is written at the version x mod (the highest + 1) as the defaults are.
-/
import Derived.Test.YtbgklecbmhaadaaSFetchRequest
import Derived.Test.YtbgklecbmhaadaaRows
import Derived.WalkKit
import Derived.ProofKit
import Derived.OpenShut
import Derived.Deep.DeepHandedRow
namespace Go.Proofs.Ytbgklecbmhaadaa.fnNewFetchRequest
open Go.ChangeShapes Go.WideShapes Go.ChangeAt Go.RowKit

theorem own : ownKnob Try.prog.godebug = none := by kernel_rfl
theorem laid_met (os : Os) : laidMet Try.prog Rows.fnNewFetchRequestRow.laid (((World.holding Try.prog os ⟨#[], #[], []⟩)).forCall (fun _ _ => 0) ⟨#[], #[.int .u8 0], []⟩).memory := laidMet_nil _ _
theorem reads (os : Os) {H : Type} (enc : TypeId × Value → H) : ∃ places, DataW.whole enc Try.prog ((World.holding Try.prog os ⟨#[], #[], []⟩).forCall (fun _ _ => 0) ⟨#[], #[.int .u8 0], []⟩).memory Try.f3.params.toList Rows.fnNewFetchRequestSpec.vars false #[Value.int .u8 0].toList 8 = some ([.lit (.int .u8 0)], [], places) :=
  ⟨[], by kernel_rfl⟩

set_option maxRecDepth 100000 in
theorem contract (H : Type) (enc : TypeId × Value → H) (W : World) (base : Nat) (args : Array Value) (ds gs : List (DataW H)) (before : List MemPlace)
    (hval : ∀ (j : Nat) t v, Try.f3.params[j]? = some t → args[j]? = some v → Value.okWide Try.prog W .any base t v)
    (hW : DataW.Whole enc Try.prog Try.f3.params.toList Rows.fnNewFetchRequestSpec.vars false W args.toList ds gs before) :
    Calls Try.prog 3 args W fun e W' => ∃ v, e = .returned v ∧ Rows.fnNewFetchRequestSpec.post enc Try.prog Try.f3 false true false false W args v W' :=
  Kx.rowN (tX := 5) (tB := 4) (by kernel_rfl) (by kernel_rfl) (by kernel_rfl) (by kernel_rfl) rfl (fun _ => rfl) hval hW fun _ hx => Kx.law hx W

set_option maxRecDepth 100000 in
theorem lifted (os : Os) (started : os.Started) (H : Type) (enc : TypeId × Value → H) (F : Stop.Interp) :
    ReturnsInHanded {} Try.checked os 3 .any ((OpenSpec.ofChange Rows.fnNewFetchRequestSpec).preRow enc Try.prog Try.f3 Rows.fnNewFetchRequestRow.domain false Rows.fnNewFetchRequestRow.laid) (((OpenSpec.ofChange Rows.fnNewFetchRequestSpec).at F).post enc Try.prog Try.f3 false true false false) := by
  obtain ⟨places, hx⟩ := reads os enc
  refine returnsInHanded_of_row (C := Try.checked) (s := OpenSpec.ofChange Rows.fnNewFetchRequestSpec) own started (by kernel_rfl) Try.func3
    (witness_row_at (enc := enc) (C := Try.checked) false (World.holding Try.prog os ⟨#[], #[], []⟩) #[.int .u8 0] rfl (by kernel_rfl) (by kernel_rfl) (by kernel_rfl)
      (OpenSpec.preRow_of_cond 8 hx (by kernel_rfl) (fun k hk => by cases hk) (by kernel_rfl) (laid_met os))) ?_
  intro W base args ds gs before hval hW _ _ _ _ _ _
  exact contract H enc W base args ds gs before hval hW

theorem said : Rows.FnNewFetchRequestSaid :=
  OpenClaim.holds_of_cond 3 Try.f3 rfl rfl rfl rfl rfl rfl rfl ⟨rfl, rfl, rfl, rfl, rfl⟩ rfl rfl rfl rfl rfl (by kernel_rfl) Try.func3 (by kernel_rfl)
    (of_decide_eq_true (by kernel_rfl)) (by unfold Func.isWrapper; first | (rw [if_pos (by decide +kernel)]; kernel_rfl) | (rw [if_neg (by decide +kernel)]; exact ⟨rfl, rfl⟩))
    (fun os started H enc _ F => by rw [OpenClaim.pre_eq_preRow]; exact lifted os started H enc F)
#print axioms said
end Go.Proofs.Ytbgklecbmhaadaa.fnNewFetchRequest
namespace Go.Proofs.Ytbgklecbmhaadaa
/-- the row, under a short name -/
theorem fnNewFetchRequest_holds : Rows.FnNewFetchRequestSaid := fnNewFetchRequest.said
end Go.Proofs.Ytbgklecbmhaadaa
