/- FnProtoBytes: whatever the bytes (their number within the form's reach), the law returns true. -/
import Derived.Test.YtmfblbjklmgncaaDoorPFnProtoBytesx
import Derived.Test.YtmfblbjklmgncaaDoorRoad
namespace Go.Proofs.YtmfblbjklmgncaaDoor.Pure
open Go.RowKit Go.Proofs.YtmfblbjklmgncaaDoor.PFnProtoBytes Go.Proofs.YtmfblbjklmgncaaDoorW.PrintWords Go.Proofs.YtmfblbjklmgncaaDoorW.PrintLast Go.Proofs.YtmfblbjklmgncaaDoor.Road
set_option linter.unusedVariables false
set_option linter.unusedSimpArgs false

-- SENT: FnProtoBytes: whatever the bytes (their number within the form's reach), the law returns true.
theorem FnProtoBytes : laws_FnProtoBytes.Pure := by
  intro l0 hm hsz hwl
  unfold laws_FnProtoBytes.f
  exact if_pos (fun x hx => by
    have := hwl x hx
    simp [Lit.wf, IntKind.min, IntKind.max, IntKind.signed, IntKind.bits] at this
    omega)

end Go.Proofs.YtmfblbjklmgncaaDoor.Pure
