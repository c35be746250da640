/- FnWheelRun: whatever the turns over a wheel, the law returns true. -/
import Derived.Test.YtnkjlfadegjjoaaDoorPFnWheelRunr
import Derived.Test.YtnkjlfadegjjoaaDoorRoad
namespace Go.Proofs.YtnkjlfadegjjoaaDoor.Pure
open Go.RowKit Go.Proofs.YtnkjlfadegjjoaaDoor.PFnWheelRun Go.Proofs.YtnkjlfadegjjoaaDoorW.PrintWords Go.Proofs.YtnkjlfadegjjoaaDoorW.PrintLast Go.Proofs.YtnkjlfadegjjoaaDoor.Road
set_option linter.unusedVariables false
set_option linter.unusedSimpArgs false

-- SENT: FnWheelRun: whatever the turns over a wheel, the law returns true.
theorem FnWheelRun : laws_FnWheelRun.Pure := by
  intro l0 hm hok
  unfold laws_FnWheelRun.f
  refine if_pos (List.all_eq_true.2 fun a ha => ?_)
  have := (hok a ha).2.1
  simp [Lit.wf, IntKind.min, IntKind.max, IntKind.signed, IntKind.bits] at this
  simp only [Bool.and_eq_true, decide_eq_true_eq]
  omega

end Go.Proofs.YtnkjlfadegjjoaaDoor.Pure
