/- FnWheelBack: whatever the turns over a wheel, the number and the further turns, the law returns true. -/
import Derived.Test.YtnkjlfadegjjoaaDoorPFnWheelBackr
import Derived.Test.YtnkjlfadegjjoaaDoorRoad
namespace Go.Proofs.YtnkjlfadegjjoaaDoor.Pure
open Go.RowKit Go.Proofs.YtnkjlfadegjjoaaDoor.PFnWheelBack Go.Proofs.YtnkjlfadegjjoaaDoorW.PrintWords Go.Proofs.YtnkjlfadegjjoaaDoorW.PrintLast Go.Proofs.YtnkjlfadegjjoaaDoor.Road
set_option linter.unusedVariables false
set_option linter.unusedSimpArgs false

-- SENT: FnWheelBack: whatever the turns over a wheel, the number and the further turns, the law returns true.
theorem FnWheelBack : laws_FnWheelBack.Pure := by
  intro l0 a1 l2 hm hok ha hm2 hok2
  unfold laws_FnWheelBack.f
  have h1 : 0 ≤ a1 ∧ a1 < 18446744073709551616 := by
    simp [Lit.wf, IntKind.min, IntKind.max, IntKind.signed, IntKind.bits] at ha
    omega
  refine if_pos ⟨List.all_eq_true.2 fun a hx => ?_, h1⟩
  have hk : ok34 a := by
    rcases List.mem_append.1 hx with h | h
    · exact hok a h
    · exact hok2 a h
  have := hk.2.1
  simp [Lit.wf, IntKind.min, IntKind.max, IntKind.signed, IntKind.bits] at this
  simp only [Bool.and_eq_true, decide_eq_true_eq]
  omega

end Go.Proofs.YtnkjlfadegjjoaaDoor.Pure
