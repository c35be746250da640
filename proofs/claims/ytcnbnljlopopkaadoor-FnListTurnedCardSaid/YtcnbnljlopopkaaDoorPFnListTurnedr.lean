/- What is told of the arguments of FnListTurned, and its statement over plain data. No condition. -/
import Derived.Test.YtcnbnljlopopkaaDoorPFnListTurnedx9
import Derived.Test.YtcnbnljlopopkaaDoorOpens
namespace Go.Proofs.YtcnbnljlopopkaaDoor.PFnListTurned
open Go.RowKit Go.Proofs.YtcnbnljlopopkaaDoorW.PrintWords Go.Proofs.YtcnbnljlopopkaaDoorW.PrintLast Go.Proofs.YtcnbnljlopopkaaDoorW.PrintMore
attribute [local go_sem] max2_int min2_int max_two min_two max_three min_three max_four min_four   -- for this text's walks alone
set_option linter.unusedVariables false
set_option linter.unusedSimpArgs false



open Go.Proofs.YtcnbnljlopopkaaDoor.Opens
def ok51 (x : S51) : Prop := (Lit.int .i64 x.f0).wf = true ∧ x.f1.size ≤ maxLen ∧ (Lit.int .i64 x.f2).wf = true
theorem opens51 : Opens Tryd.prog 51 k51 ok51 :=
  Opens.iso (Opens.struct Tryd.underlying51 (by kernel_rfl) (OpensF.cons (Opens.int (by kernel_rfl)) rfl (by kernel_rfl) (OpensF.cons (Opens.string (by kernel_rfl)) rfl (by kernel_rfl) (OpensF.one (Opens.int (by kernel_rfl)) rfl (by kernel_rfl))))) (fun x : S51 => (x.f0, x.f1, x.f2)) (fun x => ⟨x.1, x.2.1, x.2.2⟩) (fun _ => rfl)
theorem opensA0 : Opens Tryd.prog 22 (Kd.slice 51 k51) (fun l => l.length ≤ maxLen ∧ ∀ z ∈ l, ok51 z) := (Opens.slice (by kernel_rfl) opens51 (by kernel_rfl))
def laws_FnListTurned.Pure : Prop := ∀ (l0 : List S51) (a1 : Int) (a2 : ByteArray), l0.length ≤ maxLen → (∀ z ∈ l0, ok51 z) → (Lit.int .i64 a1).wf = true → a2.size ≤ 140737488351232 → laws_FnListTurned.f l0 a1 a2 = some true
end Go.Proofs.YtcnbnljlopopkaaDoor.PFnListTurned
