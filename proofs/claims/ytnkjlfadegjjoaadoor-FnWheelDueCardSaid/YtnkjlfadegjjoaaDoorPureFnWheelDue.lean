/- FnWheelDue: whatever the turns over a wheel and the time, the law returns true. -/
import Derived.Test.YtnkjlfadegjjoaaDoorPFnWheelDuer
import Derived.Test.YtnkjlfadegjjoaaDoorRoad
namespace Go.Proofs.YtnkjlfadegjjoaaDoor.Pure
open Go.RowKit Go.Proofs.YtnkjlfadegjjoaaDoor.PFnWheelDue Go.Proofs.YtnkjlfadegjjoaaDoorW.PrintWords Go.Proofs.YtnkjlfadegjjoaaDoorW.PrintLast Go.Proofs.YtnkjlfadegjjoaaDoor.Road
set_option linter.unusedVariables false
set_option linter.unusedSimpArgs false

-- SENT: FnWheelDue: whatever the turns over a wheel and the time, the law returns true.
theorem FnWheelDue : laws_FnWheelDue.Pure := by
  intro l0 a1 hm hok ha
  unfold laws_FnWheelDue.f
  refine if_pos (List.all_eq_true.2 fun a ha => ?_)
  have := (hok a ha).2.1
  simp [Lit.wf, IntKind.min, IntKind.max, IntKind.signed, IntKind.bits] at this
  simp only [Bool.and_eq_true, decide_eq_true_eq]
  omega

end Go.Proofs.YtnkjlfadegjjoaaDoor.Pure
