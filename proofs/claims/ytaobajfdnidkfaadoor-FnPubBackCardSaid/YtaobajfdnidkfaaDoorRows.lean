/-
  NARROWER THAN 'FOR EVERY INPUT', by the rows' own cells (each row's printed sentence says how): FnPub: laid · FnPubBack: laid.
  DERIVED. THE GIVEN ROWS OF THIS SEAT. 2 by the template 'for every input the law returns true; each argument reads behind the call as it read before'; 0 by the template 'total and deterministic' (their statements: YtaobajfdnidkfaaDoorTotals.lean).
  GIVEN WITH THE SEED: the statements are not yours to turn. If you find one false, say at which input.
  Laid BY PROGRAM, IN A SANDBOX (cutbox-rows.mjs): the forced cells as the released guide's own fill.sh prints them over the translation 86e8d465de0f3545… (all of the seat's roots in one cut). By AI agents, Wed Nov 11 2026. No macro, syntax, notation, axiom, sorry.
-/
import Derived.Test.YtaobajfdnidkfaaDoorChecked
import GoSem.Claim
import GoSem.ClaimJoined
import GoSem.ClaimMapViews
import Derived.JoinedTies
import Derived.KernelRfl
namespace Go.Proofs.YtaobajfdnidkfaaDoor
/- THE CELL 'sum', in the pinned program and in every row, IS THE sha256 OF THE DUMP (.gsa) THAT YtaobajfdnidkfaaDoorProg.lean LOADS. Nothing in Lean hashes anything: it is a label: what it is worth is what the hold of that sum in a sandbox is worth. -/
noncomputable def Tryd.pinned : Pinned := { name := "ytaobajfdnidkfaadoor", sum := "86e8d465de0f35456cc9f02be741db17e7279c78b10cf12194d8944f6195a6b6", checked := Tryd.checked }
namespace Rows
def none {H : Type} : Left H := { results := [], args := [] }

/- WHAT THE LISTED PACKAGE-LEVEL VARIABLES READ AS WHEN THE CALL BEGINS. Each datum BY PROGRAM (the guide's laid-datum.mjs) off the statement by which the dump's own 'gosem.cut.vars' lays the variable. In a bare row this is a premise. The card (YtaobajfdnidkfaaDoorCards.lean) ties it to the program's text. -/
def laid_pub_tokenroad_pub_natsserver_server_ErrMaxPayload {H : Type} : DataW H := .iface "*errors.errorString" (.ptr (.agg [.lit (.string [109, 97, 120, 105, 109, 117, 109, 32, 112, 97, 121, 108, 111, 97, 100, 32, 101, 120, 99, 101, 101, 100, 101, 100])]))

/-- 'laws.FnPub': WHATEVER THE INPUT: true; the input reads as it did. -/
def fnPubSpec : ChangeSpec := { name := "fnPub", fn := fun _ => fun
  | [d1, d2] => { results := [.lit (.bool true)], args := [d1, d2] }
  | _ => none }
def fnPubRow : OpenClaim := { program := "ytaobajfdnidkfaadoor", sum := "86e8d465de0f35456cc9f02be741db17e7279c78b10cf12194d8944f6195a6b6", func := "pub-tokenroad/laws.FnPub", spec := "fnPub", inPlace := ["sync/atomic.LoadInt32"], named := ["pub-tokenroad/pub/natsserver/server.ErrMaxPayload"], apart := false, laid := [("pub-tokenroad/pub/natsserver/server.ErrMaxPayload", laid_pub_tokenroad_pub_natsserver_server_ErrMaxPayload)] }
def FnPubSaid : Prop := fnPubRow.holds Tryd.pinned (OpenSpec.ofChange fnPubSpec)

/-- ITS FALSE NEIGHBOUR: 'it returns false'. Refute it at one input. -/
def fnPubWrong : ChangeSpec := { name := "fnPub", fn := fun _ => fun
  | [d1, d2] => { results := [.lit (.bool false)], args := [d1, d2] }
  | _ => none }
def FnPubWrongFalsely : Prop := fnPubRow.holds Tryd.pinned (OpenSpec.ofChange fnPubWrong)

/-- 'laws.FnPubBack': WHATEVER THE INPUT: true; the input reads as it did. -/
def fnPubBackSpec : ChangeSpec := { name := "fnPubBack", fn := fun _ => fun
  | [d1, d2, d3, d4] => { results := [.lit (.bool true)], args := [d1, d2, d3, d4] }
  | _ => none }
def fnPubBackRow : OpenClaim := { program := "ytaobajfdnidkfaadoor", sum := "86e8d465de0f35456cc9f02be741db17e7279c78b10cf12194d8944f6195a6b6", func := "pub-tokenroad/laws.FnPubBack", spec := "fnPubBack", inPlace := ["sync/atomic.LoadInt32"], named := ["pub-tokenroad/pub/natsserver/server.ErrMaxPayload"], apart := false, laid := [("pub-tokenroad/pub/natsserver/server.ErrMaxPayload", laid_pub_tokenroad_pub_natsserver_server_ErrMaxPayload)] }
def FnPubBackSaid : Prop := fnPubBackRow.holds Tryd.pinned (OpenSpec.ofChange fnPubBackSpec)

/-- ITS FALSE NEIGHBOUR: 'it returns false'. Refute it at one input. -/
def fnPubBackWrong : ChangeSpec := { name := "fnPubBack", fn := fun _ => fun
  | [d1, d2, d3, d4] => { results := [.lit (.bool false)], args := [d1, d2, d3, d4] }
  | _ => none }
def FnPubBackWrongFalsely : Prop := fnPubBackRow.holds Tryd.pinned (OpenSpec.ofChange fnPubBackWrong)

/- THE SECOND FORM. 'bulk': how many values and letters a reading holds, each counted each time it is reached (what is shared counts as often as it is met; a slice's spare places count too). A statement '..UptoSaid' is the law's where the arguments, and the package variables that the reading takes, are together of bulk at most 1048576: NARROWER than '..Said'. Prove '..Said' where nothing that the law and all that it calls make is longer than what came in: it says more and counts as full. Else prove '..UptoSaid'. A law counts once. -/
mutual
def uptoBulk {H : Type} : DataW H → Nat
  | .lit (.string bytes) => bytes.length + 1
  | .lit _ => 1
  | .nil => 1
  | .ptr d => uptoBulk d + 1
  | .slice elems spare => uptoBulkAll elems + uptoBulkAll spare + 1
  | .agg parts => uptoBulkAll parts + 1
  | .iface _ d => uptoBulk d + 1
  | .map entries => uptoBulkEntries entries + 1
  | .held _ => 1
def uptoBulkAll {H : Type} : List (DataW H) → Nat
  | [] => 0
  | d :: r => uptoBulk d + uptoBulkAll r
def uptoBulkEntries {H : Type} : List (Lit × DataW H) → Nat
  | [] => 0
  | x :: r => uptoBulkEntry x + uptoBulkEntries r
def uptoBulkEntry {H : Type} : Lit × DataW H → Nat
  | (.string bytes, d) => bytes.length + uptoBulk d + 1
  | (_, d) => uptoBulk d + 1
 end
def uptoSmall : (H : Type) → List (DataW H) → Bool := fun _ ds => decide (uptoBulkAll ds ≤ 1048576)
def OpenSpec.upto (s : _root_.Go.ChangeSpec) : _root_.Go.OpenSpec := { _root_.Go.OpenSpec.ofChange s with cond := some uptoSmall }

/-- 'laws.FnPub', WHERE WHAT IT READS IS OF BULK AT MOST 1048576: true; the input reads as it did. -/
def fnPubUptoRow : OpenClaim := { program := "ytaobajfdnidkfaadoor", sum := "86e8d465de0f35456cc9f02be741db17e7279c78b10cf12194d8944f6195a6b6", func := "pub-tokenroad/laws.FnPub", spec := "fnPub", inPlace := ["sync/atomic.LoadInt32"], named := ["pub-tokenroad/pub/natsserver/server.ErrMaxPayload"], apart := false, laid := [("pub-tokenroad/pub/natsserver/server.ErrMaxPayload", laid_pub_tokenroad_pub_natsserver_server_ErrMaxPayload)], narrowed := true }
def FnPubUptoSaid : Prop := fnPubUptoRow.holds Tryd.pinned (OpenSpec.upto fnPubSpec)

/-- 'laws.FnPubBack', WHERE WHAT IT READS IS OF BULK AT MOST 1048576: true; the input reads as it did. -/
def fnPubBackUptoRow : OpenClaim := { program := "ytaobajfdnidkfaadoor", sum := "86e8d465de0f35456cc9f02be741db17e7279c78b10cf12194d8944f6195a6b6", func := "pub-tokenroad/laws.FnPubBack", spec := "fnPubBack", inPlace := ["sync/atomic.LoadInt32"], named := ["pub-tokenroad/pub/natsserver/server.ErrMaxPayload"], apart := false, laid := [("pub-tokenroad/pub/natsserver/server.ErrMaxPayload", laid_pub_tokenroad_pub_natsserver_server_ErrMaxPayload)], narrowed := true }
def FnPubBackUptoSaid : Prop := fnPubBackUptoRow.holds Tryd.pinned (OpenSpec.upto fnPubBackSpec)

end Rows
end Go.Proofs.YtaobajfdnidkfaaDoor
