/- FnListTurned: whatever the deeds over a list, the turn and the subject, the law returns true. -/
import Derived.Test.YtcnbnljlopopkaaDoorPFnListTurnedr
import Derived.Test.YtcnbnljlopopkaaDoorRoad
namespace Go.Proofs.YtcnbnljlopopkaaDoor.Pure
open Go.RowKit Go.Proofs.YtcnbnljlopopkaaDoor.PFnListTurned Go.Proofs.YtcnbnljlopopkaaDoorW.PrintWords Go.Proofs.YtcnbnljlopopkaaDoorW.PrintLast Go.Proofs.YtcnbnljlopopkaaDoor.Road
set_option linter.unusedVariables false
set_option linter.unusedSimpArgs false

-- SENT: FnListTurned: whatever the deeds over a list, the turn and the subject, the law returns true.
theorem FnListTurned : laws_FnListTurned.Pure := by
  intro l0 a1 a2 hm hok ha hs
  unfold laws_FnListTurned.f
  refine if_pos (List.all_eq_true.2 fun a hx => ?_)
  exact (hok a hx).2.2

end Go.Proofs.YtcnbnljlopopkaaDoor.Pure
