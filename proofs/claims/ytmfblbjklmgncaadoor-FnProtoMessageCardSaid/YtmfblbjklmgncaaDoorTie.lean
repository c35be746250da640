/-
  DERIVED. GIVEN WITH THE SEED: THE PROGRAM's TIES (one call each: nine closed facts by the kernel) AND EACH ROW's TIE, after the 31st guide's Derived/Test/Toyas{Tie, Card}.lean. No idea stands in it: it is a product of the set-up. Laid BY PROGRAM, IN A SANDBOX (cutbox-door.mjs). By AI agents, Wed Nov 11 2026. No macro, syntax, notation, axiom, sorry.
-/
import Derived.Test.YtmfblbjklmgncaaDoorRows
import Derived.LaidByTextLater
import Derived.SevenTiedAt
import Derived.LaidSub
import Derived.LaidOnce
namespace Go.Proofs.YtmfblbjklmgncaaDoor
open Go
set_option maxRecDepth 100000
theorem seatTie1 : Tryd.prog.laidByTextLater [("pub-tokenroad/pub/natsserver/server.errMQTTUnsupportedCharacters", Rows.laid_pub_tokenroad_pub_natsserver_server_errMQTTUnsupportedCharacters), ("pub-tokenroad/pub/natsserver/server.errProtoInsufficient", Rows.laid_pub_tokenroad_pub_natsserver_server_errProtoInsufficient), ("pub-tokenroad/pub/natsserver/server.errProtoOverflow", Rows.laid_pub_tokenroad_pub_natsserver_server_errProtoOverflow), ("pub-tokenroad/pub/natsserver/server.errProtoInvalidFieldNumber", Rows.laid_pub_tokenroad_pub_natsserver_server_errProtoInvalidFieldNumber)] [.sentinel, .sentinel, .sentinel, .sentinel] true :=
  Program.laidByTextLater_by_one 85 8 2 (by kernel_rfl) (by kernel_rfl) (by kernel_rfl) (by kernel_rfl) (by kernel_rfl) (by kernel_rfl) (fun _ _ => by kernel_rfl)
theorem noOwnUnsafe : Tryd.pinned.checked.prog.headLifts.contains "ownunsafe" = false := by kernel_rfl
theorem tie : Tryd.prog.laidByTextLater [("pub-tokenroad/pub/natsserver/server.errProtoInsufficient", Rows.laid_pub_tokenroad_pub_natsserver_server_errProtoInsufficient), ("pub-tokenroad/pub/natsserver/server.errProtoOverflow", Rows.laid_pub_tokenroad_pub_natsserver_server_errProtoOverflow)] [.sentinel, .sentinel] true :=
  Program.laidByTextLater.sub seatTie1 ["pub-tokenroad/pub/natsserver/server.errProtoInsufficient", "pub-tokenroad/pub/natsserver/server.errProtoOverflow"] (by kernel_rfl) (by kernel_rfl)
theorem fnProtoBytes_row_tie : Rows.fnProtoBytesRow.laidByTextAt .later Tryd.pinned [.sentinel, .sentinel] true :=
  OpenClaim.laidByTextAt_later rfl rfl tie noOwnUnsafe
theorem fnProtoEncode_row_tie : Rows.fnProtoEncodeRow.laidByTextAt .later Tryd.pinned [.sentinel, .sentinel] true :=
  OpenClaim.laidByTextAt_later rfl rfl tie noOwnUnsafe
theorem tie2 : Tryd.prog.laidByTextLater [("pub-tokenroad/pub/natsserver/server.errProtoInsufficient", Rows.laid_pub_tokenroad_pub_natsserver_server_errProtoInsufficient), ("pub-tokenroad/pub/natsserver/server.errProtoOverflow", Rows.laid_pub_tokenroad_pub_natsserver_server_errProtoOverflow), ("pub-tokenroad/pub/natsserver/server.errProtoInvalidFieldNumber", Rows.laid_pub_tokenroad_pub_natsserver_server_errProtoInvalidFieldNumber)] [.sentinel, .sentinel, .sentinel] true :=
  Program.laidByTextLater.sub seatTie1 ["pub-tokenroad/pub/natsserver/server.errProtoInsufficient", "pub-tokenroad/pub/natsserver/server.errProtoOverflow", "pub-tokenroad/pub/natsserver/server.errProtoInvalidFieldNumber"] (by kernel_rfl) (by kernel_rfl)
theorem fnProtoMessage_row_tie : Rows.fnProtoMessageRow.laidByTextAt .later Tryd.pinned [.sentinel, .sentinel, .sentinel] true :=
  OpenClaim.laidByTextAt_later rfl rfl tie2 noOwnUnsafe
theorem tie3 : Tryd.prog.laidByTextLater [("pub-tokenroad/pub/natsserver/server.errMQTTUnsupportedCharacters", Rows.laid_pub_tokenroad_pub_natsserver_server_errMQTTUnsupportedCharacters)] [.sentinel] true :=
  Program.laidByTextLater.sub seatTie1 ["pub-tokenroad/pub/natsserver/server.errMQTTUnsupportedCharacters"] (by kernel_rfl) (by kernel_rfl)
theorem fnTopicApart_row_tie : Rows.fnTopicApartRow.laidByTextAt .later Tryd.pinned [.sentinel] true :=
  OpenClaim.laidByTextAt_later rfl rfl tie3 noOwnUnsafe
theorem fnNeedsUp_row_tie : Rows.fnNeedsUpRow.laidByTextAt .later Tryd.pinned [.sentinel] true :=
  OpenClaim.laidByTextAt_later rfl rfl tie3 noOwnUnsafe
theorem fnFilterSubject_row_tie : Rows.fnFilterSubjectRow.laidByTextAt .later Tryd.pinned [.sentinel] true :=
  OpenClaim.laidByTextAt_later rfl rfl tie3 noOwnUnsafe
theorem fnTopicSubject_row_tie : Rows.fnTopicSubjectRow.laidByTextAt .later Tryd.pinned [.sentinel] true :=
  OpenClaim.laidByTextAt_later rfl rfl tie3 noOwnUnsafe
theorem fnProtoBytesUpto_row_tie : Rows.fnProtoBytesUptoRow.laidByTextAt .later Tryd.pinned [.sentinel, .sentinel] true :=
  OpenClaim.laidByTextAt_later rfl rfl tie noOwnUnsafe
theorem fnProtoMessageUpto_row_tie : Rows.fnProtoMessageUptoRow.laidByTextAt .later Tryd.pinned [.sentinel, .sentinel, .sentinel] true :=
  OpenClaim.laidByTextAt_later rfl rfl tie2 noOwnUnsafe
theorem fnProtoEncodeUpto_row_tie : Rows.fnProtoEncodeUptoRow.laidByTextAt .later Tryd.pinned [.sentinel, .sentinel] true :=
  OpenClaim.laidByTextAt_later rfl rfl tie noOwnUnsafe
theorem fnTopicApartUpto_row_tie : Rows.fnTopicApartUptoRow.laidByTextAt .later Tryd.pinned [.sentinel] true :=
  OpenClaim.laidByTextAt_later rfl rfl tie3 noOwnUnsafe
theorem fnNeedsUpUpto_row_tie : Rows.fnNeedsUpUptoRow.laidByTextAt .later Tryd.pinned [.sentinel] true :=
  OpenClaim.laidByTextAt_later rfl rfl tie3 noOwnUnsafe
theorem fnFilterSubjectUpto_row_tie : Rows.fnFilterSubjectUptoRow.laidByTextAt .later Tryd.pinned [.sentinel] true :=
  OpenClaim.laidByTextAt_later rfl rfl tie3 noOwnUnsafe
theorem fnTopicSubjectUpto_row_tie : Rows.fnTopicSubjectUptoRow.laidByTextAt .later Tryd.pinned [.sentinel] true :=
  OpenClaim.laidByTextAt_later rfl rfl tie3 noOwnUnsafe
end Go.Proofs.YtmfblbjklmgncaaDoor
