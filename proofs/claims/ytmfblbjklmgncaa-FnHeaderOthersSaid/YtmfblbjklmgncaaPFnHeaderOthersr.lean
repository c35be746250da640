/- What is told of the arguments of FnHeaderOthers, and its statement over plain data. No condition. -/
import Derived.Test.YtmfblbjklmgncaaPFnHeaderOthersx5
import Derived.Test.YtmfblbjklmgncaaOpens
namespace Go.Proofs.Ytmfblbjklmgncaa.PFnHeaderOthers
open Go.RowKit Go.Proofs.YtmfblbjklmgncaaW.PrintWords Go.Proofs.YtmfblbjklmgncaaW.PrintLast Go.Proofs.YtmfblbjklmgncaaW.PrintMore
attribute [local go_sem] max2_int min2_int max_two min_two max_three min_three max_four min_four   -- for this text's walks alone
set_option linter.unusedVariables false
set_option linter.unusedSimpArgs false



open Go.Proofs.Ytmfblbjklmgncaa.Opens
def ok37 (x : S37) : Prop := x.f0.size ≤ maxLen ∧ x.f1.size ≤ maxLen
theorem opens37 : Opens Try.prog 37 k37 ok37 :=
  Opens.iso (Opens.struct Try.underlying37 (by kernel_rfl) (OpensF.cons (Opens.string (by kernel_rfl)) rfl (by kernel_rfl) (OpensF.one (Opens.string (by kernel_rfl)) rfl (by kernel_rfl)))) (fun x : S37 => (x.f0, x.f1)) (fun x => ⟨x.1, x.2⟩) (fun _ => rfl)
theorem opensA0 : Opens Try.prog 22 (Kd.slice 37 k37) (fun l => l.length ≤ maxLen ∧ ∀ z ∈ l, ok37 z) := (Opens.slice (by kernel_rfl) opens37 (by kernel_rfl))
def laws_FnHeaderOthers.Pure : Prop := ∀ (l0 : List S37) (a1 : ByteArray) (a2 : ByteArray), l0.length ≤ maxLen → (∀ z ∈ l0, ok37 z) → a1.size ≤ 140737488351232 → a2.size ≤ 140737488351232 → ∃ k, laws_FnHeaderOthers.f k l0 a1 a2 = some true
end Go.Proofs.Ytmfblbjklmgncaa.PFnHeaderOthers
