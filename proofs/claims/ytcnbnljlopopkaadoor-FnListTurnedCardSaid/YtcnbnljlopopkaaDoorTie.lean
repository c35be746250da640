/-
  DERIVED. GIVEN WITH THE SEED: THE PROGRAM's TIES (one call each: nine closed facts by the kernel) AND EACH ROW's TIE, after the 31st guide's Derived/Test/Toyas{Tie, Card}.lean. No idea stands in it: it is a product of the set-up. Laid BY PROGRAM, IN A SANDBOX (cutbox-door.mjs). By AI agents, Wed Nov 11 2026. No macro, syntax, notation, axiom, sorry.
-/
import Derived.Test.YtcnbnljlopopkaaDoorRows
import Derived.LaidByTextLater
import Derived.SevenTiedAt
import Derived.LaidSub
import Derived.LaidOnce
namespace Go.Proofs.YtcnbnljlopopkaaDoor
open Go
set_option maxRecDepth 100000
theorem seatTie1 : Tryd.prog.laidByTextLater [("pub-tokenroad/pub/natsserver/server/gsl.ErrInvalidSubject", Rows.laid_pub_tokenroad_pub_natsserver_server_gsl_ErrInvalidSubject), ("pub-tokenroad/pub/natsserver/server/gsl.ErrNotFound", Rows.laid_pub_tokenroad_pub_natsserver_server_gsl_ErrNotFound)] [.sentinel, .sentinel] true :=
  Program.laidByTextLater_by_one 47 8 2 (by kernel_rfl) (by kernel_rfl) (by kernel_rfl) (by kernel_rfl) (by kernel_rfl) (by kernel_rfl) (fun _ _ => by kernel_rfl)
theorem noOwnUnsafe : Tryd.pinned.checked.prog.headLifts.contains "ownunsafe" = false := by kernel_rfl
theorem tie : Tryd.prog.laidByTextLater [("pub-tokenroad/pub/natsserver/server/gsl.ErrInvalidSubject", Rows.laid_pub_tokenroad_pub_natsserver_server_gsl_ErrInvalidSubject), ("pub-tokenroad/pub/natsserver/server/gsl.ErrNotFound", Rows.laid_pub_tokenroad_pub_natsserver_server_gsl_ErrNotFound)] [.sentinel, .sentinel] true :=
  Program.laidByTextLater.sub seatTie1 ["pub-tokenroad/pub/natsserver/server/gsl.ErrInvalidSubject", "pub-tokenroad/pub/natsserver/server/gsl.ErrNotFound"] (by kernel_rfl) (by kernel_rfl)
theorem fnListStarting_row_tie : Rows.fnListStartingRow.laidByTextAt .later Tryd.pinned [.sentinel, .sentinel] true :=
  OpenClaim.laidByTextAt_later rfl rfl tie noOwnUnsafe
theorem fnListSingle_row_tie : Rows.fnListSingleRow.laidByTextAt .later Tryd.pinned [.sentinel, .sentinel] true :=
  OpenClaim.laidByTextAt_later rfl rfl tie noOwnUnsafe
theorem fnListMatch_row_tie : Rows.fnListMatchRow.laidByTextAt .later Tryd.pinned [.sentinel, .sentinel] true :=
  OpenClaim.laidByTextAt_later rfl rfl tie noOwnUnsafe
theorem fnListTurned_row_tie : Rows.fnListTurnedRow.laidByTextAt .later Tryd.pinned [.sentinel, .sentinel] true :=
  OpenClaim.laidByTextAt_later rfl rfl tie noOwnUnsafe
theorem fnListStartingUpto_row_tie : Rows.fnListStartingUptoRow.laidByTextAt .later Tryd.pinned [.sentinel, .sentinel] true :=
  OpenClaim.laidByTextAt_later rfl rfl tie noOwnUnsafe
theorem fnListSingleUpto_row_tie : Rows.fnListSingleUptoRow.laidByTextAt .later Tryd.pinned [.sentinel, .sentinel] true :=
  OpenClaim.laidByTextAt_later rfl rfl tie noOwnUnsafe
theorem fnListMatchUpto_row_tie : Rows.fnListMatchUptoRow.laidByTextAt .later Tryd.pinned [.sentinel, .sentinel] true :=
  OpenClaim.laidByTextAt_later rfl rfl tie noOwnUnsafe
theorem fnListTurnedUpto_row_tie : Rows.fnListTurnedUptoRow.laidByTextAt .later Tryd.pinned [.sentinel, .sentinel] true :=
  OpenClaim.laidByTextAt_later rfl rfl tie noOwnUnsafe
end Go.Proofs.YtcnbnljlopopkaaDoor
