/- FnPub: whatever the bytes and the limit (their number within the form's reach), the law returns true. -/
import Derived.Test.YtaobajfdnidkfaaDoorPFnPubx
import Derived.Test.YtaobajfdnidkfaaDoorRoad
namespace Go.Proofs.YtaobajfdnidkfaaDoor.Pure
open Go.RowKit Go.Proofs.YtaobajfdnidkfaaDoor.PFnPub Go.Proofs.YtaobajfdnidkfaaDoorW.PrintWords Go.Proofs.YtaobajfdnidkfaaDoorW.PrintLast Go.Proofs.YtaobajfdnidkfaaDoor.Road
set_option linter.unusedVariables false
set_option linter.unusedSimpArgs false

-- SENT: FnPub: whatever the bytes and the limit (their number within the form's reach), the law returns true.
theorem FnPub : laws_FnPub.Pure := by
  intro l0 a1 hm hsz hwl _
  unfold laws_FnPub.f
  exact if_pos (fun x hx => by
    have := hwl x hx
    simp [Lit.wf, IntKind.min, IntKind.max, IntKind.signed, IntKind.bits] at this
    omega)

end Go.Proofs.YtaobajfdnidkfaaDoor.Pure
