/- FnListMatch: whatever the deeds over a list and the subject, asked by text or by bytes, the law returns true. -/
import Derived.Test.YtcnbnljlopopkaaDoorPFnListMatchr
import Derived.Test.YtcnbnljlopopkaaDoorRoad
namespace Go.Proofs.YtcnbnljlopopkaaDoor.Pure
open Go.RowKit Go.Proofs.YtcnbnljlopopkaaDoor.PFnListMatch Go.Proofs.YtcnbnljlopopkaaDoorW.PrintWords Go.Proofs.YtcnbnljlopopkaaDoorW.PrintLast Go.Proofs.YtcnbnljlopopkaaDoor.Road
set_option linter.unusedVariables false
set_option linter.unusedSimpArgs false

-- SENT: FnListMatch: whatever the deeds over a list and the subject, asked by text or by bytes, the law returns true.
theorem FnListMatch : laws_FnListMatch.Pure := by
  intro l0 a1 a2 hm hok ha
  unfold laws_FnListMatch.f
  refine if_pos (List.all_eq_true.2 fun a hx => ?_)
  exact (hok a hx).2.2

end Go.Proofs.YtcnbnljlopopkaaDoor.Pure
