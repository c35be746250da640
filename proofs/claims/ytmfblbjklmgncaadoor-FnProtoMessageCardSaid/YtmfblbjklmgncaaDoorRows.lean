/-
  NARROWER THAN 'FOR EVERY INPUT', by the rows' own cells (each row's printed sentence says how): FnProtoBytes: laid · FnProtoMessage: laid · FnProtoEncode: laid · FnTopicApart: laid · FnNeedsUp: laid · FnFilterSubject: laid · FnTopicSubject: laid.
  DERIVED. THE GIVEN ROWS OF THIS SEAT. 7 by the template 'for every input the law returns true; each argument reads behind the call as it read before'; 0 by the template 'total and deterministic' (their statements: YtmfblbjklmgncaaDoorTotals.lean).
  GIVEN WITH THE SEED: the statements are not yours to turn. If you find one false, say at which input.
  Laid BY PROGRAM, IN A SANDBOX (cutbox-rows.mjs): the forced cells as the released guide's own fill.sh prints them over the translation 5f588b684d3f7bdb… (all of the seat's roots in one cut). By AI agents, Wed Nov 11 2026. No macro, syntax, notation, axiom, sorry.
-/
import Derived.Test.YtmfblbjklmgncaaDoorChecked
import GoSem.Claim
import GoSem.ClaimJoined
import GoSem.ClaimMapViews
import Derived.JoinedTies
import Derived.KernelRfl
namespace Go.Proofs.YtmfblbjklmgncaaDoor
/- THE CELL 'sum', in the pinned program and in every row, IS THE sha256 OF THE DUMP (.gsa) THAT YtmfblbjklmgncaaDoorProg.lean LOADS. Nothing in Lean hashes anything: it is a label: what it is worth is what the hold of that sum in a sandbox is worth. -/
noncomputable def Tryd.pinned : Pinned := { name := "ytmfblbjklmgncaadoor", sum := "5f588b684d3f7bdb48265018679ba6e5284a8306a5c399436c630a62ddbb93a7", checked := Tryd.checked }
namespace Rows
def none {H : Type} : Left H := { results := [], args := [] }

/- WHAT THE LISTED PACKAGE-LEVEL VARIABLES READ AS WHEN THE CALL BEGINS. Each datum BY PROGRAM (the guide's laid-datum.mjs) off the statement by which the dump's own 'gosem.cut.vars' lays the variable. In a bare row this is a premise. The card (YtmfblbjklmgncaaDoorCards.lean) ties it to the program's text. -/
def laid_pub_tokenroad_pub_natsserver_server_errProtoInsufficient {H : Type} : DataW H := .iface "*errors.errorString" (.ptr (.agg [.lit (.string [105, 110, 115, 117, 102, 102, 105, 99, 105, 101, 110, 116, 32, 100, 97, 116, 97, 32, 116, 111, 32, 114, 101, 97, 100, 32, 97, 32, 118, 97, 108, 117, 101])]))
def laid_pub_tokenroad_pub_natsserver_server_errProtoOverflow {H : Type} : DataW H := .iface "*errors.errorString" (.ptr (.agg [.lit (.string [116, 111, 111, 32, 109, 117, 99, 104, 32, 100, 97, 116, 97, 32, 102, 111, 114, 32, 97, 32, 118, 97, 108, 117, 101])]))
def laid_pub_tokenroad_pub_natsserver_server_errProtoInvalidFieldNumber {H : Type} : DataW H := .iface "*errors.errorString" (.ptr (.agg [.lit (.string [105, 110, 118, 97, 108, 105, 100, 32, 102, 105, 101, 108, 100, 32, 110, 117, 109, 98, 101, 114])]))
def laid_pub_tokenroad_pub_natsserver_server_errMQTTUnsupportedCharacters {H : Type} : DataW H := .iface "*errors.errorString" (.ptr (.agg [.lit (.string [99, 104, 97, 114, 97, 99, 116, 101, 114, 32, 110, 111, 116, 32, 115, 117, 112, 112, 111, 114, 116, 101, 100, 32, 102, 111, 114, 32, 77, 81, 84, 84, 32, 116, 111, 112, 105, 99, 115])]))

/-- 'laws.FnProtoBytes': WHATEVER THE INPUT: true; the input reads as it did. -/
def fnProtoBytesSpec : ChangeSpec := { name := "fnProtoBytes", fn := fun _ => fun
  | [d] => { results := [.lit (.bool true)], args := [d] }
  | _ => none }
def fnProtoBytesRow : OpenClaim := { program := "ytmfblbjklmgncaadoor", sum := "5f588b684d3f7bdb48265018679ba6e5284a8306a5c399436c630a62ddbb93a7", func := "pub-tokenroad/laws.FnProtoBytes", spec := "fnProtoBytes", named := ["pub-tokenroad/pub/natsserver/server.errProtoInsufficient", "pub-tokenroad/pub/natsserver/server.errProtoOverflow"], apart := false, laid := [("pub-tokenroad/pub/natsserver/server.errProtoInsufficient", laid_pub_tokenroad_pub_natsserver_server_errProtoInsufficient), ("pub-tokenroad/pub/natsserver/server.errProtoOverflow", laid_pub_tokenroad_pub_natsserver_server_errProtoOverflow)] }
def FnProtoBytesSaid : Prop := fnProtoBytesRow.holds Tryd.pinned (OpenSpec.ofChange fnProtoBytesSpec)

/-- ITS FALSE NEIGHBOUR: 'it returns false'. Refute it at one input. -/
def fnProtoBytesWrong : ChangeSpec := { name := "fnProtoBytes", fn := fun _ => fun
  | [d] => { results := [.lit (.bool false)], args := [d] }
  | _ => none }
def FnProtoBytesWrongFalsely : Prop := fnProtoBytesRow.holds Tryd.pinned (OpenSpec.ofChange fnProtoBytesWrong)

/-- 'laws.FnProtoMessage': WHATEVER THE INPUT: true; the input reads as it did. -/
def fnProtoMessageSpec : ChangeSpec := { name := "fnProtoMessage", fn := fun _ => fun
  | [d1, d2] => { results := [.lit (.bool true)], args := [d1, d2] }
  | _ => none }
def fnProtoMessageRow : OpenClaim := { program := "ytmfblbjklmgncaadoor", sum := "5f588b684d3f7bdb48265018679ba6e5284a8306a5c399436c630a62ddbb93a7", func := "pub-tokenroad/laws.FnProtoMessage", spec := "fnProtoMessage", named := ["pub-tokenroad/pub/natsserver/server.errProtoInsufficient", "pub-tokenroad/pub/natsserver/server.errProtoOverflow", "pub-tokenroad/pub/natsserver/server.errProtoInvalidFieldNumber"], apart := false, laid := [("pub-tokenroad/pub/natsserver/server.errProtoInsufficient", laid_pub_tokenroad_pub_natsserver_server_errProtoInsufficient), ("pub-tokenroad/pub/natsserver/server.errProtoOverflow", laid_pub_tokenroad_pub_natsserver_server_errProtoOverflow), ("pub-tokenroad/pub/natsserver/server.errProtoInvalidFieldNumber", laid_pub_tokenroad_pub_natsserver_server_errProtoInvalidFieldNumber)] }
def FnProtoMessageSaid : Prop := fnProtoMessageRow.holds Tryd.pinned (OpenSpec.ofChange fnProtoMessageSpec)

/-- ITS FALSE NEIGHBOUR: 'it returns false'. Refute it at one input. -/
def fnProtoMessageWrong : ChangeSpec := { name := "fnProtoMessage", fn := fun _ => fun
  | [d1, d2] => { results := [.lit (.bool false)], args := [d1, d2] }
  | _ => none }
def FnProtoMessageWrongFalsely : Prop := fnProtoMessageRow.holds Tryd.pinned (OpenSpec.ofChange fnProtoMessageWrong)

/-- 'laws.FnProtoEncode': WHATEVER THE INPUT: true; the input reads as it did. -/
def fnProtoEncodeSpec : ChangeSpec := { name := "fnProtoEncode", fn := fun _ => fun
  | [d1, d2] => { results := [.lit (.bool true)], args := [d1, d2] }
  | _ => none }
def fnProtoEncodeRow : OpenClaim := { program := "ytmfblbjklmgncaadoor", sum := "5f588b684d3f7bdb48265018679ba6e5284a8306a5c399436c630a62ddbb93a7", func := "pub-tokenroad/laws.FnProtoEncode", spec := "fnProtoEncode", named := ["pub-tokenroad/pub/natsserver/server.errProtoInsufficient", "pub-tokenroad/pub/natsserver/server.errProtoOverflow"], apart := false, laid := [("pub-tokenroad/pub/natsserver/server.errProtoInsufficient", laid_pub_tokenroad_pub_natsserver_server_errProtoInsufficient), ("pub-tokenroad/pub/natsserver/server.errProtoOverflow", laid_pub_tokenroad_pub_natsserver_server_errProtoOverflow)] }
def FnProtoEncodeSaid : Prop := fnProtoEncodeRow.holds Tryd.pinned (OpenSpec.ofChange fnProtoEncodeSpec)

/-- ITS FALSE NEIGHBOUR: 'it returns false'. Refute it at one input. -/
def fnProtoEncodeWrong : ChangeSpec := { name := "fnProtoEncode", fn := fun _ => fun
  | [d1, d2] => { results := [.lit (.bool false)], args := [d1, d2] }
  | _ => none }
def FnProtoEncodeWrongFalsely : Prop := fnProtoEncodeRow.holds Tryd.pinned (OpenSpec.ofChange fnProtoEncodeWrong)

/-- 'laws.FnTopicApart': WHATEVER THE INPUT: true; the input reads as it did. -/
def fnTopicApartSpec : ChangeSpec := { name := "fnTopicApart", fn := fun _ => fun
  | [d1, d2] => { results := [.lit (.bool true)], args := [d1, d2] }
  | _ => none }
def fnTopicApartRow : OpenClaim := { program := "ytmfblbjklmgncaadoor", sum := "5f588b684d3f7bdb48265018679ba6e5284a8306a5c399436c630a62ddbb93a7", func := "pub-tokenroad/laws.FnTopicApart", spec := "fnTopicApart", unfollowed := true, recurses := true, named := ["pub-tokenroad/pub/natsserver/server.errMQTTUnsupportedCharacters"], apart := false, laid := [("pub-tokenroad/pub/natsserver/server.errMQTTUnsupportedCharacters", laid_pub_tokenroad_pub_natsserver_server_errMQTTUnsupportedCharacters)] }
def FnTopicApartSaid : Prop := fnTopicApartRow.holds Tryd.pinned (OpenSpec.ofChange fnTopicApartSpec)

/-- ITS FALSE NEIGHBOUR: 'it returns false'. Refute it at one input. -/
def fnTopicApartWrong : ChangeSpec := { name := "fnTopicApart", fn := fun _ => fun
  | [d1, d2] => { results := [.lit (.bool false)], args := [d1, d2] }
  | _ => none }
def FnTopicApartWrongFalsely : Prop := fnTopicApartRow.holds Tryd.pinned (OpenSpec.ofChange fnTopicApartWrong)

/-- 'laws.FnNeedsUp': WHATEVER THE INPUT: true; the input reads as it did. -/
def fnNeedsUpSpec : ChangeSpec := { name := "fnNeedsUp", fn := fun _ => fun
  | [d] => { results := [.lit (.bool true)], args := [d] }
  | _ => none }
def fnNeedsUpRow : OpenClaim := { program := "ytmfblbjklmgncaadoor", sum := "5f588b684d3f7bdb48265018679ba6e5284a8306a5c399436c630a62ddbb93a7", func := "pub-tokenroad/laws.FnNeedsUp", spec := "fnNeedsUp", unfollowed := true, recurses := true, named := ["pub-tokenroad/pub/natsserver/server.errMQTTUnsupportedCharacters"], apart := false, laid := [("pub-tokenroad/pub/natsserver/server.errMQTTUnsupportedCharacters", laid_pub_tokenroad_pub_natsserver_server_errMQTTUnsupportedCharacters)] }
def FnNeedsUpSaid : Prop := fnNeedsUpRow.holds Tryd.pinned (OpenSpec.ofChange fnNeedsUpSpec)

/-- ITS FALSE NEIGHBOUR: 'it returns false'. Refute it at one input. -/
def fnNeedsUpWrong : ChangeSpec := { name := "fnNeedsUp", fn := fun _ => fun
  | [d] => { results := [.lit (.bool false)], args := [d] }
  | _ => none }
def FnNeedsUpWrongFalsely : Prop := fnNeedsUpRow.holds Tryd.pinned (OpenSpec.ofChange fnNeedsUpWrong)

/-- 'laws.FnFilterSubject': WHATEVER THE INPUT: true; the input reads as it did. -/
def fnFilterSubjectSpec : ChangeSpec := { name := "fnFilterSubject", fn := fun _ => fun
  | [d] => { results := [.lit (.bool true)], args := [d] }
  | _ => none }
def fnFilterSubjectRow : OpenClaim := { program := "ytmfblbjklmgncaadoor", sum := "5f588b684d3f7bdb48265018679ba6e5284a8306a5c399436c630a62ddbb93a7", func := "pub-tokenroad/laws.FnFilterSubject", spec := "fnFilterSubject", inPlace := ["internal/bytealg.IndexByte"], unfollowed := true, recurses := true, named := ["pub-tokenroad/pub/natsserver/server.errMQTTUnsupportedCharacters"], apart := false, laid := [("pub-tokenroad/pub/natsserver/server.errMQTTUnsupportedCharacters", laid_pub_tokenroad_pub_natsserver_server_errMQTTUnsupportedCharacters)] }
def FnFilterSubjectSaid : Prop := fnFilterSubjectRow.holds Tryd.pinned (OpenSpec.ofChange fnFilterSubjectSpec)

/-- ITS FALSE NEIGHBOUR: 'it returns false'. Refute it at one input. -/
def fnFilterSubjectWrong : ChangeSpec := { name := "fnFilterSubject", fn := fun _ => fun
  | [d] => { results := [.lit (.bool false)], args := [d] }
  | _ => none }
def FnFilterSubjectWrongFalsely : Prop := fnFilterSubjectRow.holds Tryd.pinned (OpenSpec.ofChange fnFilterSubjectWrong)

/-- 'laws.FnTopicSubject': WHATEVER THE INPUT: true; the input reads as it did. -/
def fnTopicSubjectSpec : ChangeSpec := { name := "fnTopicSubject", fn := fun _ => fun
  | [d] => { results := [.lit (.bool true)], args := [d] }
  | _ => none }
def fnTopicSubjectRow : OpenClaim := { program := "ytmfblbjklmgncaadoor", sum := "5f588b684d3f7bdb48265018679ba6e5284a8306a5c399436c630a62ddbb93a7", func := "pub-tokenroad/laws.FnTopicSubject", spec := "fnTopicSubject", inPlace := ["internal/bytealg.IndexByte"], unfollowed := true, recurses := true, named := ["pub-tokenroad/pub/natsserver/server.errMQTTUnsupportedCharacters"], apart := false, laid := [("pub-tokenroad/pub/natsserver/server.errMQTTUnsupportedCharacters", laid_pub_tokenroad_pub_natsserver_server_errMQTTUnsupportedCharacters)] }
def FnTopicSubjectSaid : Prop := fnTopicSubjectRow.holds Tryd.pinned (OpenSpec.ofChange fnTopicSubjectSpec)

/-- ITS FALSE NEIGHBOUR: 'it returns false'. Refute it at one input. -/
def fnTopicSubjectWrong : ChangeSpec := { name := "fnTopicSubject", fn := fun _ => fun
  | [d] => { results := [.lit (.bool false)], args := [d] }
  | _ => none }
def FnTopicSubjectWrongFalsely : Prop := fnTopicSubjectRow.holds Tryd.pinned (OpenSpec.ofChange fnTopicSubjectWrong)

/- THE SECOND FORM. 'bulk': how many values and letters a reading holds, each counted each time it is reached (what is shared counts as often as it is met; a slice's spare places count too). A statement '..UptoSaid' is the law's where the arguments, and the package variables that the reading takes, are together of bulk at most 1048576: NARROWER than '..Said'. Prove '..Said' where nothing that the law and all that it calls make is longer than what came in: it says more and counts as full. Else prove '..UptoSaid'. A law counts once. -/
mutual
def uptoBulk {H : Type} : DataW H → Nat
  | .lit (.string bytes) => bytes.length + 1
  | .lit _ => 1
  | .nil => 1
  | .ptr d => uptoBulk d + 1
  | .slice elems spare => uptoBulkAll elems + uptoBulkAll spare + 1
  | .agg parts => uptoBulkAll parts + 1
  | .iface _ d => uptoBulk d + 1
  | .map entries => uptoBulkEntries entries + 1
  | .held _ => 1
def uptoBulkAll {H : Type} : List (DataW H) → Nat
  | [] => 0
  | d :: r => uptoBulk d + uptoBulkAll r
def uptoBulkEntries {H : Type} : List (Lit × DataW H) → Nat
  | [] => 0
  | x :: r => uptoBulkEntry x + uptoBulkEntries r
def uptoBulkEntry {H : Type} : Lit × DataW H → Nat
  | (.string bytes, d) => bytes.length + uptoBulk d + 1
  | (_, d) => uptoBulk d + 1
 end
def uptoSmall : (H : Type) → List (DataW H) → Bool := fun _ ds => decide (uptoBulkAll ds ≤ 1048576)
def OpenSpec.upto (s : _root_.Go.ChangeSpec) : _root_.Go.OpenSpec := { _root_.Go.OpenSpec.ofChange s with cond := some uptoSmall }

/-- 'laws.FnProtoBytes', WHERE WHAT IT READS IS OF BULK AT MOST 1048576: true; the input reads as it did. -/
def fnProtoBytesUptoRow : OpenClaim := { program := "ytmfblbjklmgncaadoor", sum := "5f588b684d3f7bdb48265018679ba6e5284a8306a5c399436c630a62ddbb93a7", func := "pub-tokenroad/laws.FnProtoBytes", spec := "fnProtoBytes", named := ["pub-tokenroad/pub/natsserver/server.errProtoInsufficient", "pub-tokenroad/pub/natsserver/server.errProtoOverflow"], apart := false, laid := [("pub-tokenroad/pub/natsserver/server.errProtoInsufficient", laid_pub_tokenroad_pub_natsserver_server_errProtoInsufficient), ("pub-tokenroad/pub/natsserver/server.errProtoOverflow", laid_pub_tokenroad_pub_natsserver_server_errProtoOverflow)], narrowed := true }
def FnProtoBytesUptoSaid : Prop := fnProtoBytesUptoRow.holds Tryd.pinned (OpenSpec.upto fnProtoBytesSpec)

/-- 'laws.FnProtoMessage', WHERE WHAT IT READS IS OF BULK AT MOST 1048576: true; the input reads as it did. -/
def fnProtoMessageUptoRow : OpenClaim := { program := "ytmfblbjklmgncaadoor", sum := "5f588b684d3f7bdb48265018679ba6e5284a8306a5c399436c630a62ddbb93a7", func := "pub-tokenroad/laws.FnProtoMessage", spec := "fnProtoMessage", named := ["pub-tokenroad/pub/natsserver/server.errProtoInsufficient", "pub-tokenroad/pub/natsserver/server.errProtoOverflow", "pub-tokenroad/pub/natsserver/server.errProtoInvalidFieldNumber"], apart := false, laid := [("pub-tokenroad/pub/natsserver/server.errProtoInsufficient", laid_pub_tokenroad_pub_natsserver_server_errProtoInsufficient), ("pub-tokenroad/pub/natsserver/server.errProtoOverflow", laid_pub_tokenroad_pub_natsserver_server_errProtoOverflow), ("pub-tokenroad/pub/natsserver/server.errProtoInvalidFieldNumber", laid_pub_tokenroad_pub_natsserver_server_errProtoInvalidFieldNumber)], narrowed := true }
def FnProtoMessageUptoSaid : Prop := fnProtoMessageUptoRow.holds Tryd.pinned (OpenSpec.upto fnProtoMessageSpec)

/-- 'laws.FnProtoEncode', WHERE WHAT IT READS IS OF BULK AT MOST 1048576: true; the input reads as it did. -/
def fnProtoEncodeUptoRow : OpenClaim := { program := "ytmfblbjklmgncaadoor", sum := "5f588b684d3f7bdb48265018679ba6e5284a8306a5c399436c630a62ddbb93a7", func := "pub-tokenroad/laws.FnProtoEncode", spec := "fnProtoEncode", named := ["pub-tokenroad/pub/natsserver/server.errProtoInsufficient", "pub-tokenroad/pub/natsserver/server.errProtoOverflow"], apart := false, laid := [("pub-tokenroad/pub/natsserver/server.errProtoInsufficient", laid_pub_tokenroad_pub_natsserver_server_errProtoInsufficient), ("pub-tokenroad/pub/natsserver/server.errProtoOverflow", laid_pub_tokenroad_pub_natsserver_server_errProtoOverflow)], narrowed := true }
def FnProtoEncodeUptoSaid : Prop := fnProtoEncodeUptoRow.holds Tryd.pinned (OpenSpec.upto fnProtoEncodeSpec)

/-- 'laws.FnTopicApart', WHERE WHAT IT READS IS OF BULK AT MOST 1048576: true; the input reads as it did. -/
def fnTopicApartUptoRow : OpenClaim := { program := "ytmfblbjklmgncaadoor", sum := "5f588b684d3f7bdb48265018679ba6e5284a8306a5c399436c630a62ddbb93a7", func := "pub-tokenroad/laws.FnTopicApart", spec := "fnTopicApart", unfollowed := true, recurses := true, named := ["pub-tokenroad/pub/natsserver/server.errMQTTUnsupportedCharacters"], apart := false, laid := [("pub-tokenroad/pub/natsserver/server.errMQTTUnsupportedCharacters", laid_pub_tokenroad_pub_natsserver_server_errMQTTUnsupportedCharacters)], narrowed := true }
def FnTopicApartUptoSaid : Prop := fnTopicApartUptoRow.holds Tryd.pinned (OpenSpec.upto fnTopicApartSpec)

/-- 'laws.FnNeedsUp', WHERE WHAT IT READS IS OF BULK AT MOST 1048576: true; the input reads as it did. -/
def fnNeedsUpUptoRow : OpenClaim := { program := "ytmfblbjklmgncaadoor", sum := "5f588b684d3f7bdb48265018679ba6e5284a8306a5c399436c630a62ddbb93a7", func := "pub-tokenroad/laws.FnNeedsUp", spec := "fnNeedsUp", unfollowed := true, recurses := true, named := ["pub-tokenroad/pub/natsserver/server.errMQTTUnsupportedCharacters"], apart := false, laid := [("pub-tokenroad/pub/natsserver/server.errMQTTUnsupportedCharacters", laid_pub_tokenroad_pub_natsserver_server_errMQTTUnsupportedCharacters)], narrowed := true }
def FnNeedsUpUptoSaid : Prop := fnNeedsUpUptoRow.holds Tryd.pinned (OpenSpec.upto fnNeedsUpSpec)

/-- 'laws.FnFilterSubject', WHERE WHAT IT READS IS OF BULK AT MOST 1048576: true; the input reads as it did. -/
def fnFilterSubjectUptoRow : OpenClaim := { program := "ytmfblbjklmgncaadoor", sum := "5f588b684d3f7bdb48265018679ba6e5284a8306a5c399436c630a62ddbb93a7", func := "pub-tokenroad/laws.FnFilterSubject", spec := "fnFilterSubject", inPlace := ["internal/bytealg.IndexByte"], unfollowed := true, recurses := true, named := ["pub-tokenroad/pub/natsserver/server.errMQTTUnsupportedCharacters"], apart := false, laid := [("pub-tokenroad/pub/natsserver/server.errMQTTUnsupportedCharacters", laid_pub_tokenroad_pub_natsserver_server_errMQTTUnsupportedCharacters)], narrowed := true }
def FnFilterSubjectUptoSaid : Prop := fnFilterSubjectUptoRow.holds Tryd.pinned (OpenSpec.upto fnFilterSubjectSpec)

/-- 'laws.FnTopicSubject', WHERE WHAT IT READS IS OF BULK AT MOST 1048576: true; the input reads as it did. -/
def fnTopicSubjectUptoRow : OpenClaim := { program := "ytmfblbjklmgncaadoor", sum := "5f588b684d3f7bdb48265018679ba6e5284a8306a5c399436c630a62ddbb93a7", func := "pub-tokenroad/laws.FnTopicSubject", spec := "fnTopicSubject", inPlace := ["internal/bytealg.IndexByte"], unfollowed := true, recurses := true, named := ["pub-tokenroad/pub/natsserver/server.errMQTTUnsupportedCharacters"], apart := false, laid := [("pub-tokenroad/pub/natsserver/server.errMQTTUnsupportedCharacters", laid_pub_tokenroad_pub_natsserver_server_errMQTTUnsupportedCharacters)], narrowed := true }
def FnTopicSubjectUptoSaid : Prop := fnTopicSubjectUptoRow.holds Tryd.pinned (OpenSpec.upto fnTopicSubjectSpec)

end Rows
end Go.Proofs.YtmfblbjklmgncaaDoor
