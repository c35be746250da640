/- What is told of the arguments of FnWheelBack, and its statement over plain data. No condition. -/
import Derived.Test.YtnkjlfadegjjoaaDoorPFnWheelBackx7
import Derived.Test.YtnkjlfadegjjoaaDoorOpens
namespace Go.Proofs.YtnkjlfadegjjoaaDoor.PFnWheelBack
open Go.RowKit Go.Proofs.YtnkjlfadegjjoaaDoorW.PrintWords Go.Proofs.YtnkjlfadegjjoaaDoorW.PrintLast Go.Proofs.YtnkjlfadegjjoaaDoorW.PrintMore
attribute [local go_sem] max2_int min2_int max_two min_two max_three min_three max_four min_four   -- for this text's walks alone
set_option linter.unusedVariables false
set_option linter.unusedSimpArgs false



open Go.Proofs.YtnkjlfadegjjoaaDoor.Opens
def ok34 (x : S34) : Prop := (Lit.int .i64 x.f0).wf = true ∧ (Lit.int .u64 x.f1).wf = true ∧ (Lit.int .i64 x.f2).wf = true ∧ (Lit.int .i64 x.f3).wf = true ∧ True
theorem opens34 : Opens Tryd.prog 34 k34 ok34 :=
  Opens.iso (Opens.struct Tryd.underlying34 (by kernel_rfl) (OpensF.cons (Opens.int (by kernel_rfl)) rfl (by kernel_rfl) (OpensF.cons (Opens.int (by kernel_rfl)) rfl (by kernel_rfl) (OpensF.cons (Opens.int (by kernel_rfl)) rfl (by kernel_rfl) (OpensF.cons (Opens.int (by kernel_rfl)) rfl (by kernel_rfl) (OpensF.one (Opens.bool (by kernel_rfl)) rfl (by kernel_rfl))))))) (fun x : S34 => (x.f0, x.f1, x.f2, x.f3, x.f4)) (fun x => ⟨x.1, x.2.1, x.2.2.1, x.2.2.2.1, x.2.2.2.2⟩) (fun _ => rfl)
theorem opensA0 : Opens Tryd.prog 22 (Kd.slice 34 k34) (fun l => l.length ≤ maxLen ∧ ∀ z ∈ l, ok34 z) := (Opens.slice (by kernel_rfl) opens34 (by kernel_rfl))
theorem opensA2 : Opens Tryd.prog 22 (Kd.slice 34 k34) (fun l => l.length ≤ maxLen ∧ ∀ z ∈ l, ok34 z) := (Opens.slice (by kernel_rfl) opens34 (by kernel_rfl))
def laws_FnWheelBack.Pure : Prop := ∀ (l0 : List S34) (a1 : Int) (l2 : List S34), l0.length ≤ maxLen → (∀ z ∈ l0, ok34 z) → (Lit.int .u64 a1).wf = true → l2.length ≤ maxLen → (∀ z ∈ l2, ok34 z) → laws_FnWheelBack.f l0 a1 l2 = some true
end Go.Proofs.YtnkjlfadegjjoaaDoor.PFnWheelBack
