/- What is told of the arguments of FnSetDecode, and its statement over plain data. No condition. -/
import Derived.Test.YtjhdnapgdajllaaDoorPFnSetDecodex1
import Derived.Test.YtjhdnapgdajllaaDoorOpens
namespace Go.Proofs.YtjhdnapgdajllaaDoor.PFnSetDecode
open Go.RowKit Go.Proofs.YtjhdnapgdajllaaDoorW.PrintWords Go.Proofs.YtjhdnapgdajllaaDoorW.PrintLast Go.Proofs.YtjhdnapgdajllaaDoorW.PrintMore
attribute [local go_sem] max2_int min2_int max_two min_two max_three min_three max_four min_four   -- for this text's walks alone
set_option linter.unusedVariables false
set_option linter.unusedSimpArgs false



open Go.Proofs.YtjhdnapgdajllaaDoor.Opens
theorem opensA0 : Opens Tryd.prog 47 (Kd.slice 5 (Kd.int .u8)) (fun l => l.length ≤ maxLen ∧ ∀ z ∈ l, (Lit.int .u8 z).wf = true) := (Opens.slice (by kernel_rfl) (Opens.int (by kernel_rfl)) (by kernel_rfl))
def laws_FnSetDecode.Pure : Prop := ∀ (l0 : List Int), l0.length ≤ maxLen → (∀ z ∈ l0, (Lit.int .u8 z).wf = true) → laws_FnSetDecode.f l0 = some true
end Go.Proofs.YtjhdnapgdajllaaDoor.PFnSetDecode
