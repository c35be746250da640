/-
  DERIVED. GIVEN WITH THE SEED: THE PROGRAM's TIES (one call each: nine closed facts by the kernel) AND EACH ROW's TIE, after the 31st guide's Derived/Test/Toyas{Tie, Card}.lean. No idea stands in it: it is a product of the set-up. Laid BY PROGRAM, IN A SANDBOX (cutbox-door.mjs). By AI agents, Wed Nov 11 2026. No macro, syntax, notation, axiom, sorry.
-/
import Derived.Test.YtnkjlfadegjjoaaDoorRows
import Derived.LaidByTextLater
import Derived.SevenTiedAt
import Derived.LaidSub
import Derived.LaidOnce
namespace Go.Proofs.YtnkjlfadegjjoaaDoor
open Go
set_option maxRecDepth 100000
theorem seatTie1 : Tryd.prog.laidByTextLater [("io.ErrShortBuffer", Rows.laid_io_ErrShortBuffer), ("io.ErrUnexpectedEOF", Rows.laid_io_ErrUnexpectedEOF), ("pub-tokenroad/pub/natsserver/server/thw.ErrTaskNotFound", Rows.laid_pub_tokenroad_pub_natsserver_server_thw_ErrTaskNotFound), ("pub-tokenroad/pub/natsserver/server/thw.ErrInvalidVersion", Rows.laid_pub_tokenroad_pub_natsserver_server_thw_ErrInvalidVersion)] [.sentinel, .sentinel, .sentinel, .sentinel] true :=
  Program.laidByTextLater_by_one 85 8 2 (by kernel_rfl) (by kernel_rfl) (by kernel_rfl) (by kernel_rfl) (by kernel_rfl) (by kernel_rfl) (fun _ _ => by kernel_rfl)
theorem noOwnUnsafe : Tryd.pinned.checked.prog.headLifts.contains "ownunsafe" = false := by kernel_rfl
theorem tie : Tryd.prog.laidByTextLater [("pub-tokenroad/pub/natsserver/server/thw.ErrTaskNotFound", Rows.laid_pub_tokenroad_pub_natsserver_server_thw_ErrTaskNotFound)] [.sentinel] true :=
  Program.laidByTextLater.sub seatTie1 ["pub-tokenroad/pub/natsserver/server/thw.ErrTaskNotFound"] (by kernel_rfl) (by kernel_rfl)
theorem fnWheelRun_row_tie : Rows.fnWheelRunRow.laidByTextAt .later Tryd.pinned [.sentinel] true :=
  OpenClaim.laidByTextAt_later rfl rfl tie noOwnUnsafe
theorem fnWheelDue_row_tie : Rows.fnWheelDueRow.laidByTextAt .later Tryd.pinned [.sentinel] true :=
  OpenClaim.laidByTextAt_later rfl rfl tie noOwnUnsafe
theorem tie2 : Tryd.prog.laidByTextLater [("io.ErrShortBuffer", Rows.laid_io_ErrShortBuffer), ("io.ErrUnexpectedEOF", Rows.laid_io_ErrUnexpectedEOF), ("pub-tokenroad/pub/natsserver/server/thw.ErrTaskNotFound", Rows.laid_pub_tokenroad_pub_natsserver_server_thw_ErrTaskNotFound), ("pub-tokenroad/pub/natsserver/server/thw.ErrInvalidVersion", Rows.laid_pub_tokenroad_pub_natsserver_server_thw_ErrInvalidVersion)] [.sentinel, .sentinel, .sentinel, .sentinel] true :=
  Program.laidByTextLater.sub seatTie1 ["io.ErrShortBuffer", "io.ErrUnexpectedEOF", "pub-tokenroad/pub/natsserver/server/thw.ErrTaskNotFound", "pub-tokenroad/pub/natsserver/server/thw.ErrInvalidVersion"] (by kernel_rfl) (by kernel_rfl)
theorem fnWheelBack_row_tie : Rows.fnWheelBackRow.laidByTextAt .later Tryd.pinned [.sentinel, .sentinel, .sentinel, .sentinel] true :=
  OpenClaim.laidByTextAt_later rfl rfl tie2 noOwnUnsafe
theorem fnWheelRunUpto_row_tie : Rows.fnWheelRunUptoRow.laidByTextAt .later Tryd.pinned [.sentinel] true :=
  OpenClaim.laidByTextAt_later rfl rfl tie noOwnUnsafe
theorem fnWheelDueUpto_row_tie : Rows.fnWheelDueUptoRow.laidByTextAt .later Tryd.pinned [.sentinel] true :=
  OpenClaim.laidByTextAt_later rfl rfl tie noOwnUnsafe
theorem fnWheelBackUpto_row_tie : Rows.fnWheelBackUptoRow.laidByTextAt .later Tryd.pinned [.sentinel, .sentinel, .sentinel, .sentinel] true :=
  OpenClaim.laidByTextAt_later rfl rfl tie2 noOwnUnsafe
end Go.Proofs.YtnkjlfadegjjoaaDoor
