/- All words of ACLOperation are those that the documentation names, in order (FnACLOperationWords); no condition. -/
import Derived.Test.YtfnpnpmjhcmkfaaPFnACLOperationWordsx1
namespace Go.Proofs.Ytfnpnpmjhcmkfaa.Pure
open Go.RowKit Go.Proofs.Ytfnpnpmjhcmkfaa.PFnACLOperationWords Go.Proofs.YtfnpnpmjhcmkfaaW.PrintWords Go.Proofs.YtfnpnpmjhcmkfaaW.PrintLast

/-- YOURS: ∃ k, laws_FnACLOperationWords.f k  = some true
What it reaches (each with k first where it has rounds; `.mono`: more rounds tell the same; `.l0`, ..: its loops, with `.mono_l`): laws_sameWords.f, kmsg_ACLOperationStrings.f, impl_ACLOperationStrings.f, spec_Words.f, spec_ACLOperation.f, laws_FnACLOperationWords.f -/
theorem FnACLOperationWords : laws_FnACLOperationWords.Pure := by
  refine ⟨20, ?_⟩
  kernel_rfl

end Go.Proofs.Ytfnpnpmjhcmkfaa.Pure
