/- What is told of the arguments of FnProtoMessage, and its statement over plain data. No condition. -/
import Derived.Test.YtmfblbjklmgncaaDoorPFnProtoMessagex3
import Derived.Test.YtmfblbjklmgncaaDoorOpens
namespace Go.Proofs.YtmfblbjklmgncaaDoor.PFnProtoMessage
open Go.RowKit Go.Proofs.YtmfblbjklmgncaaDoorW.PrintWords Go.Proofs.YtmfblbjklmgncaaDoorW.PrintLast Go.Proofs.YtmfblbjklmgncaaDoorW.PrintMore
attribute [local go_sem] max2_int min2_int max_two min_two max_three min_three max_four min_four   -- for this text's walks alone
set_option linter.unusedVariables false
set_option linter.unusedSimpArgs false



open Go.Proofs.YtmfblbjklmgncaaDoor.Opens
def ok35 (x : S35) : Prop := (Lit.int .i64 x.f0).wf = true ∧ (Lit.int .i64 x.f1).wf = true ∧ (Lit.int .u64 x.f2).wf = true ∧ (x.f3.length ≤ maxLen ∧ ∀ z0 ∈ x.f3, (Lit.int .u8 z0).wf = true)
theorem opens35 : Opens Tryd.prog 35 k35 ok35 :=
  Opens.iso (Opens.struct Tryd.underlying35 (by kernel_rfl) (OpensF.cons (Opens.int (by kernel_rfl)) rfl (by kernel_rfl) (OpensF.cons (Opens.int (by kernel_rfl)) rfl (by kernel_rfl) (OpensF.cons (Opens.int (by kernel_rfl)) rfl (by kernel_rfl) (OpensF.one (Opens.slice (by kernel_rfl) (Opens.int (by kernel_rfl)) (by kernel_rfl)) rfl (by kernel_rfl)))))) (fun x : S35 => (x.f0, x.f1, x.f2, x.f3)) (fun x => ⟨x.1, x.2.1, x.2.2.1, x.2.2.2⟩) (fun _ => rfl)
theorem opensA0 : Opens Tryd.prog 30 (Kd.slice 35 k35) (fun l => l.length ≤ maxLen ∧ ∀ z ∈ l, ok35 z) := (Opens.slice (by kernel_rfl) opens35 (by kernel_rfl))
def laws_FnProtoMessage.Pure : Prop := ∀ (l0 : List S35) (a1 : Int), l0.length ≤ maxLen → (∀ z ∈ l0, ok35 z) → (Lit.int .i64 a1).wf = true → ∃ k, laws_FnProtoMessage.f k l0 a1 = some true
end Go.Proofs.YtmfblbjklmgncaaDoor.PFnProtoMessage
