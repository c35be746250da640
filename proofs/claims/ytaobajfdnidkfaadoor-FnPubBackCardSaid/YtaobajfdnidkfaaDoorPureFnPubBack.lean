/- FnPubBack: whatever the subject, the reply, the size and the blanks (texts within the form's reach), the law returns true. -/
import Derived.Test.YtaobajfdnidkfaaDoorPFnPubBackx
import Derived.Test.YtaobajfdnidkfaaDoorRoad
namespace Go.Proofs.YtaobajfdnidkfaaDoor.Pure
open Go.RowKit Go.Proofs.YtaobajfdnidkfaaDoor.PFnPubBack Go.Proofs.YtaobajfdnidkfaaDoorW.PrintWords Go.Proofs.YtaobajfdnidkfaaDoorW.PrintLast Go.Proofs.YtaobajfdnidkfaaDoor.Road
set_option linter.unusedVariables false
set_option linter.unusedSimpArgs false

-- SENT: FnPubBack: whatever the subject, the reply, the size and the blanks (texts within the form's reach), the law returns true.
theorem FnPubBack : laws_FnPubBack.Pure := by
  intro a0 a1 a2 a3 _ _ _ h3
  unfold laws_FnPubBack.f
  simp [Lit.wf, IntKind.min, IntKind.max, IntKind.signed, IntKind.bits] at h3
  exact if_pos (by omega)

end Go.Proofs.YtaobajfdnidkfaaDoor.Pure
