/- What is told of the arguments of FnSetBack, and its statement over plain data. No condition. -/
import Derived.Test.YtjhdnapgdajllaaDoorPFnSetBackx1
import Derived.Test.YtjhdnapgdajllaaDoorOpens
namespace Go.Proofs.YtjhdnapgdajllaaDoor.PFnSetBack
open Go.RowKit Go.Proofs.YtjhdnapgdajllaaDoorW.PrintWords Go.Proofs.YtjhdnapgdajllaaDoorW.PrintLast Go.Proofs.YtjhdnapgdajllaaDoorW.PrintMore
attribute [local go_sem] max2_int min2_int max_two min_two max_three min_three max_four min_four   -- for this text's walks alone
set_option linter.unusedVariables false
set_option linter.unusedSimpArgs false



open Go.Proofs.YtjhdnapgdajllaaDoor.Opens
def ok34 (x : S34) : Prop := (Lit.int .i64 x.f0).wf = true ∧ (Lit.int .u64 x.f1).wf = true
theorem opens34 : Opens Tryd.prog 34 k34 ok34 :=
  Opens.iso (Opens.struct Tryd.underlying34 (by kernel_rfl) (OpensF.cons (Opens.int (by kernel_rfl)) rfl (by kernel_rfl) (OpensF.one (Opens.int (by kernel_rfl)) rfl (by kernel_rfl)))) (fun x : S34 => (x.f0, x.f1)) (fun x => ⟨x.1, x.2⟩) (fun _ => rfl)
theorem opensA0 : Opens Tryd.prog 22 (Kd.slice 34 k34) (fun l => l.length ≤ maxLen ∧ ∀ z ∈ l, ok34 z) := (Opens.slice (by kernel_rfl) opens34 (by kernel_rfl))
theorem opensA1 : Opens Tryd.prog 47 (Kd.slice 5 (Kd.int .u8)) (fun l => l.length ≤ maxLen ∧ ∀ z ∈ l, (Lit.int .u8 z).wf = true) := (Opens.slice (by kernel_rfl) (Opens.int (by kernel_rfl)) (by kernel_rfl))
def laws_FnSetBack.Pure : Prop := ∀ (l0 : List S34) (l1 : List Int), l0.length ≤ maxLen → (∀ z ∈ l0, ok34 z) → l1.length ≤ maxLen → (∀ z ∈ l1, (Lit.int .u8 z).wf = true) → ∃ k, laws_FnSetBack.f k l0 l1 = some true
end Go.Proofs.YtjhdnapgdajllaaDoor.PFnSetBack
