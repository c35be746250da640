/-
  DERIVED. GIVEN WITH THE SEED: THE PROGRAM's TIES (one call each: nine closed facts by the kernel) AND EACH ROW's TIE, after the 31st guide's Derived/Test/Toyas{Tie, Card}.lean. No idea stands in it: it is a product of the set-up. Laid BY PROGRAM, IN A SANDBOX (cutbox-door.mjs). By AI agents, Wed Nov 11 2026. No macro, syntax, notation, axiom, sorry.
-/
import Derived.Test.YtjhdnapgdajllaaDoorRows
import Derived.LaidByTextLater
import Derived.SevenTiedAt
import Derived.LaidSub
import Derived.LaidOnce
namespace Go.Proofs.YtjhdnapgdajllaaDoor
open Go
set_option maxRecDepth 100000
theorem seatTie1 : Tryd.prog.laidByTextLater [("math/bits.deBruijn64tab", Rows.laid_math_bits_deBruijn64tab), ("pub-tokenroad/pub/natsserver/server/avl.ErrBadEncoding", Rows.laid_pub_tokenroad_pub_natsserver_server_avl_ErrBadEncoding), ("pub-tokenroad/pub/natsserver/server/avl.ErrBadVersion", Rows.laid_pub_tokenroad_pub_natsserver_server_avl_ErrBadVersion)] [.data, .sentinel, .sentinel] true :=
  Program.laidByTextLater_by_one 52 8 65 (by kernel_rfl) (by kernel_rfl) (by kernel_rfl) (by kernel_rfl) (by kernel_rfl) (by kernel_rfl) (fun _ _ => by kernel_rfl)
theorem noOwnUnsafe : Tryd.pinned.checked.prog.headLifts.contains "ownunsafe" = false := by kernel_rfl
theorem tie : Tryd.prog.laidByTextLater [("math/bits.deBruijn64tab", Rows.laid_math_bits_deBruijn64tab)] [.data] true :=
  Program.laidByTextLater.sub seatTie1 ["math/bits.deBruijn64tab"] (by kernel_rfl) (by kernel_rfl)
theorem fnSetFirst_row_tie : Rows.fnSetFirstRow.laidByTextAt .later Tryd.pinned [.data] true :=
  OpenClaim.laidByTextAt_later rfl rfl tie noOwnUnsafe
theorem fnSetShape_row_tie : Rows.fnSetShapeRow.laidByTextAt .later Tryd.pinned [.data] true :=
  OpenClaim.laidByTextAt_later rfl rfl tie noOwnUnsafe
theorem fnSetClone_row_tie : Rows.fnSetCloneRow.laidByTextAt .later Tryd.pinned [.data] true :=
  OpenClaim.laidByTextAt_later rfl rfl tie noOwnUnsafe
theorem fnSetState_row_tie : Rows.fnSetStateRow.laidByTextAt .later Tryd.pinned [.data] true :=
  OpenClaim.laidByTextAt_later rfl rfl tie noOwnUnsafe
theorem fnSetUnion_row_tie : Rows.fnSetUnionRow.laidByTextAt .later Tryd.pinned [.data] true :=
  OpenClaim.laidByTextAt_later rfl rfl tie noOwnUnsafe
theorem fnSetLattice_row_tie : Rows.fnSetLatticeRow.laidByTextAt .later Tryd.pinned [.data] true :=
  OpenClaim.laidByTextAt_later rfl rfl tie noOwnUnsafe
theorem tie2 : Tryd.prog.laidByTextLater [("math/bits.deBruijn64tab", Rows.laid_math_bits_deBruijn64tab), ("pub-tokenroad/pub/natsserver/server/avl.ErrBadEncoding", Rows.laid_pub_tokenroad_pub_natsserver_server_avl_ErrBadEncoding), ("pub-tokenroad/pub/natsserver/server/avl.ErrBadVersion", Rows.laid_pub_tokenroad_pub_natsserver_server_avl_ErrBadVersion)] [.data, .sentinel, .sentinel] true :=
  Program.laidByTextLater.sub seatTie1 ["math/bits.deBruijn64tab", "pub-tokenroad/pub/natsserver/server/avl.ErrBadEncoding", "pub-tokenroad/pub/natsserver/server/avl.ErrBadVersion"] (by kernel_rfl) (by kernel_rfl)
theorem fnSetDecode_row_tie : Rows.fnSetDecodeRow.laidByTextAt .later Tryd.pinned [.data, .sentinel, .sentinel] true :=
  OpenClaim.laidByTextAt_later rfl rfl tie2 noOwnUnsafe
theorem fnSetBack_row_tie : Rows.fnSetBackRow.laidByTextAt .later Tryd.pinned [.data, .sentinel, .sentinel] true :=
  OpenClaim.laidByTextAt_later rfl rfl tie2 noOwnUnsafe
theorem fnSetFirstUpto_row_tie : Rows.fnSetFirstUptoRow.laidByTextAt .later Tryd.pinned [.data] true :=
  OpenClaim.laidByTextAt_later rfl rfl tie noOwnUnsafe
theorem fnSetShapeUpto_row_tie : Rows.fnSetShapeUptoRow.laidByTextAt .later Tryd.pinned [.data] true :=
  OpenClaim.laidByTextAt_later rfl rfl tie noOwnUnsafe
theorem fnSetCloneUpto_row_tie : Rows.fnSetCloneUptoRow.laidByTextAt .later Tryd.pinned [.data] true :=
  OpenClaim.laidByTextAt_later rfl rfl tie noOwnUnsafe
theorem fnSetStateUpto_row_tie : Rows.fnSetStateUptoRow.laidByTextAt .later Tryd.pinned [.data] true :=
  OpenClaim.laidByTextAt_later rfl rfl tie noOwnUnsafe
theorem fnSetDecodeUpto_row_tie : Rows.fnSetDecodeUptoRow.laidByTextAt .later Tryd.pinned [.data, .sentinel, .sentinel] true :=
  OpenClaim.laidByTextAt_later rfl rfl tie2 noOwnUnsafe
theorem fnSetBackUpto_row_tie : Rows.fnSetBackUptoRow.laidByTextAt .later Tryd.pinned [.data, .sentinel, .sentinel] true :=
  OpenClaim.laidByTextAt_later rfl rfl tie2 noOwnUnsafe
theorem fnSetUnionUpto_row_tie : Rows.fnSetUnionUptoRow.laidByTextAt .later Tryd.pinned [.data] true :=
  OpenClaim.laidByTextAt_later rfl rfl tie noOwnUnsafe
theorem fnSetLatticeUpto_row_tie : Rows.fnSetLatticeUptoRow.laidByTextAt .later Tryd.pinned [.data] true :=
  OpenClaim.laidByTextAt_later rfl rfl tie noOwnUnsafe
end Go.Proofs.YtjhdnapgdajllaaDoor
